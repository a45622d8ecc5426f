import Derived.Test.YtlmpgefhnmfhpaaGreatWFnSetScriptb
set_option linter.unusedVariables false
set_option linter.unusedSimpArgs false
namespace Go.Proofs.YtlmpgefhnmfhpaaGreat.wFnSetScript
open Go Go.Sl
set_option maxRecDepth 100000
set_option maxHeartbeats 4000000
variable {M : Hp} {v0 v1 v2 v3 v4 v5 v6 v7 : Value} {l0 l1 l2 l3 l4 l5 l6 l7 : List Int} {n0 n1 n2 n3 n4 n5 n6 n7 : Nat} {x0 x1 x2 x3 x4 x5 x6 x7 : Int}
theorem qV {M : Hp} {v0 : Value} {c0 : List Int} (h0 : JH 145 M v0 c0) {v1 : Value} {l1 : List Int} (h1 : Zh M v1 l1)(b0 : c0.length ≤ 1000000000)  :
  Pu Tryz.prog (.func (.func 189) #[] #[]) M [v0, v1] (fun r M' => r = .bool (QT l1 c0)) := by
 refine Jt Tryz.func189 Y Tryz.ntmps189 Y Tryz.call189 ?_
 intro a w M1 H hM1 S E
 replace h0 := h0.le hM1
 replace h1 := h1.le hM1
 have b1 := h1.bound
 refine QF (Qx E Y fun _ B => VM (Qq B Y fun _ C => Jl C Y JE h1.len fun _ D => Qq D Y ?_))
 clear E a B C D; intro a E
 refine VJ ?_
 refine Jb (γ := Nat) (fun (k : Nat) a w => ∃ (a0 : Hp), Hp.le M1 a0 ∧ St w a0 (H) ∧ Env a 26 [] [(0, v0), (9, v1), (10, .int .i64 (((l1).length : Nat) : Int)), (11, .int .i64 ((k : Nat) : Int))] ∧ (k ≤ (l1).length) ∧ (∀ z ∈ l1.take k, z ∈ c0)) (fun k => ((l1).length) - k) 0 ⟨M1, lerf, S, E.keep ⟨Y, Y, Y, Y, trivial⟩, by ((try clear S); (try clear E); first | assumption | omega | rfl | (simp; done) | (simp_all; done) | (simp [List.take_add_one, *]; done) | grind [List.take_add_one]), by ((try clear S); (try clear E); first | assumption | omega | rfl | (simp; done) | (simp_all; done) | (simp [List.take_add_one, *]; done) | grind [List.take_add_one])⟩ ?_
 try clear E
 try clear S
 try clear a
 try clear w
 rintro k a w ⟨a0, a1, S, E, b2, b3⟩
 replace h0 := h0.le a1
 replace h1 := h1.le a1
 refine QF (ZG E Y Y ?_)
 clear E a; intro a E
 refine ZB ?_
 refine QJ E Y (fun a4 => ?_) (fun a4 => ?_)
 ·refine zC ?_
  obtain ⟨b4, a5⟩ : ∃ x, (l1)[k]? = some x := ⟨_, List.getElem?_eq_getElem (by first | omega | (simp; done) | (simp; omega) | (simp_all; omega))⟩
  obtain ⟨b5, a6, a7⟩ := h1.at a5
  refine Yh E Y Y JE a6 Y fun _ B => Qz B Y Tryz.isAgg3 S.imm a7 fun _ C => Qx C Y fun _ D => QZ (Qq D Y ?_)
  clear E a B C D; intro a E
  have hset := h0
  obtain ⟨sb0, sm0, sq0, se0, shb0, shm0, shn0, shq0⟩ := hset
  have shq0l : sq0.length ≤ c0.length := Qn shn0 fun z hz => (shq0 z).1 hz
  refine QS E (Qb E Y se0) fun _ B => zw B Y (QG B (congrArg some se0) Tryz.isAgg145 S.imm (Jn shb0)) Y fun _ C => Qq C Y fun _ D => Ub S.imm shm0 D JJ Y Y fun _ F => Qq F Y fun _ G => Qj G Y Y fun _ I => Qj I Y Y ?_
  clear E a B C D F G I; intro a E
  refine QB (ZL (cs := #[]) E S Y Tryz.zeroValue104 Y ?_)
  clear E a S; rintro a w a8 E S
  refine Jq (Je (us := []) E S Y Y (Tryz.sizeOf104 _) Y (by intro u hu; cases hu) ?_)
  clear E a S; rintro a w E S
  replace S : St w a0 (Qh a8 (.cells #[] 104) :: _) := S
  have S0 := S; clear S
  obtain ⟨a2, a3, b6, S⟩ := S0.freezeB
  clear S0
  refine Qx E Y fun _ B => QZ (Qq B Y fun _ C => Zk C Y ?_)
  clear E a B C; intro a E
  refine Jx ?_
  refine Yl E Y (fun a9 => ?_) (fun a9 => ?_)
  ·refine Za ?_
   refine Qr (Qx E Y ?_)
   clear E a; intro a E
   refine J_s (jd (qW ?_))
   exact Qk E Tryz.results189 Y ⟨_, Y, a2, (a1.trans a3), (cgB (by (first | exact (vb (by assumption) (by omega)).symm | exact (sub_f1 (by assumption) (by simp_all)).symm))), S⟩
  ·refine Ja ?_
   refine yY (QY (m := ((k + 1 : Nat) : Int)) E Y Y fun _ B => Qq B Y ?_)
   clear E a B; intro a E
   refine Jx ?_
   exact ⟨k + 1, ⟨a2, (a1.trans a3), S, E.keep ⟨Y, Y, Y, Y, trivial⟩, by ((try clear S); (try clear E); first | assumption | omega | rfl | (simp; done) | (simp_all; done) | (simp [List.take_add_one, *]; done) | grind [List.take_add_one]), by ((try clear S); (try clear E); first | assumption | omega | rfl | (simp; done) | (simp_all; done) | (simp [List.take_add_one, *]; done) | grind [List.take_add_one])⟩, by omega⟩
 ·refine Um (Qx E Y ?_)
  clear E a; intro a E
  refine JQ ?_
  exact Qk E Tryz.results189 Y ⟨_, Y, a0, a1, (cgB (by (first | exact (vb (by assumption) (by omega)).symm | exact (sub_f1 (by assumption) (by simp_all)).symm))), S⟩
theorem yR {M : Hp} {p0 : Nat} {v0 : Value} {c0 : List Int} (h0 : JH 145 M v0 c0) {v1 : Value} {l1 : List Int} (h1 : Zh M v1 l1)(b0 : c0.length ≤ 1000000000)  :
  Sp Tryz.prog (.func (.func 164) #[] #[]) M [.pointer (some ⟨p0, 0, none⟩), v1] [Qh p0 (.cells #[.int .i32 0, .int .u32 0, .int .u32 0, .int .u32 0, .int .i32 0, .int .i32 0, v0] 144)] (fun r M' C' => C' = [Qh p0 (.cells #[.int .i32 0, .int .u32 0, .int .u32 0, .int .u32 0, .int .i32 0, .int .i32 0, v0] 144)] ∧ (r = .bool (QT l1 c0))) := by
 refine Qu Tryz.func164 Y Tryz.ntmps164 Y Tryz.call164 ?_
 intro a w M1 H hM1 S E
 replace S : St w M1 (Qh p0 (.cells #[.int .i32 0, .int .u32 0, .int .u32 0, .int .u32 0, .int .i32 0, .int .i32 0, v0] 144) :: _) := S
 replace h0 := h0.le hM1
 replace h1 := h1.le hM1
 have hset := h0
 obtain ⟨sb0, sm0, sq0, se0, shb0, shm0, shn0, shq0⟩ := hset
 have shq0l : sq0.length ≤ c0.length := Qn shn0 fun z hz => (shq0 z).1 hz
 refine QF (Qx E Y fun _ B => QZ (Qq B Y fun _ C => QS C (Qb C Y Y) fun _ D => Qa D Y (Qs _) ?_))
 clear E a B C D; intro a E
 replace S : St w M1 (LK p0 144 0 v0 :: _) := S
 refine QB (QI (p := [LK p0 144 0 v0]) E S Y Y Y (QX Tryz.rwRLib (T := 144) (n := 0) (by decide) (by decide)) lerf ?_)
 clear E a S; rintro a _ w a2 _ a0 ⟨rfl, rfl⟩ S E
 replace S : St w a2 (Qh p0 (.cells #[.int .i32 0, .int .u32 0, .int .u32 0, .int .u32 0, .int .i32 1, .int .i32 0, v0] 144) :: H) := S
 replace h0 := h0.le a0
 replace h1 := h1.le a0
 refine QZ (Qq E Y fun _ B => QS B (Qb B Y Y) fun _ C => Qa C Y (QW _) fun _ D => JD D Y (Tryz.isAgg116 _) (QC (S.mem (.head _)) Y) fun _ F => Qq F Y ?_)
 clear E a B C D F; intro a E
 refine QB (Jm E S Y Y Y (qV h0 h1 (by first | assumption | omega)) lerf ?_)
 clear E a S; rintro a _ w a3 a4 rfl S E
 refine Qx E Y fun _ B => QZ (Qq B Y fun _ C => QS C (Qb C Y Y) fun _ D => Qa D Y (Qs _) ?_)
 clear E a B C D; intro a E
 replace S : St w a3 (LK p0 144 (0 + 1) v0 :: _) := S
 refine QB (QI (p := [LK p0 144 (0 + 1) v0]) E S Y Y Y (QP Tryz.rwRLib (T := 144) (n := 0) (by decide) (by decide)) lerf ?_)
 clear E a S; rintro a _ w a1 _ a5 ⟨rfl, rfl⟩ S E
 replace S : St w a1 (Qh p0 (.cells #[.int .i32 0, .int .u32 0, .int .u32 0, .int .u32 0, .int .i32 0, .int .i32 0, v0] 144) :: H) := S
 refine QZ (JR 2 E Y ?_)
 clear E a; intro a E
 refine JQ ?_
 exact Qk E Tryz.results164 Y ⟨_, Y, a1, _, (a0.trans (a4.trans a5)), ⟨Y, Y⟩, S⟩
theorem jf {M : Hp} {x0 : Bool} {v : Value} {t : List RG} {i : Nat} {x : RG} {v1 : Value} {l1 : List Int} (hx : t[i]? = some x) (h1 : Zh M v1 l1) (hb : x.2.2.length ≤ 1000000000) :
  QD Tryz.prog (Zx KS x0 x) "Contains" M [v1] [QK KS x0 v t] (fun r _ C' => ∃ D, C' = QK KS x0 v t :: D ∧ (r = (.bool (QT l1 x.2.2)) ∧ D = [])) := by
 refine Yx hx fun M' hM hr => ?_
 cases x0
 ·exact ZM (F := [Zc KS false x]) (QD.of_pu (fun w => WS _ w) Tryz.call189 (qV hr (h1.le hM) hb)) fun r M2 C h => h
 ·exact (QD.of_sp (fun w => WU _ w) Tryz.call164 (yR hr (h1.le hM) hb)).mono fun r M2 C ⟨h1, h2⟩ => ⟨[], h1, h2, Y⟩
theorem Wu {M : Hp} {v0 : Value} {c0 : List Int} (h0 : JH 145 M v0 c0) {v1 : Value} {l1 : List Int} (h1 : Zh M v1 l1)(b0 : c0.length ≤ 1000000000)  :
  Pu Tryz.prog (.func (.func 190) #[] #[]) M [v0, v1] (fun r M' => r = .bool (ZJ l1 c0)) := by
 refine Jt Tryz.func190 Y Tryz.ntmps190 Y Tryz.call190 ?_
 intro a w M1 H hM1 S E
 replace h0 := h0.le hM1
 replace h1 := h1.le hM1
 have b1 := h1.bound
 refine QF (Qx E Y fun _ B => VM (Qq B Y fun _ C => Jl C Y JE h1.len fun _ D => Qq D Y ?_))
 clear E a B C D; intro a E
 refine VJ ?_
 refine Jb (γ := Nat) (fun (k : Nat) a w => ∃ (a0 : Hp), Hp.le M1 a0 ∧ St w a0 (H) ∧ Env a 25 [] [(0, v0), (9, v1), (10, .int .i64 (((l1).length : Nat) : Int)), (11, .int .i64 ((k : Nat) : Int))] ∧ (k ≤ (l1).length) ∧ (∀ z ∈ l1.take k, z ∉ c0)) (fun k => ((l1).length) - k) 0 ⟨M1, lerf, S, E.keep ⟨Y, Y, Y, Y, trivial⟩, by ((try clear S); (try clear E); first | assumption | omega | rfl | (simp; done) | (simp_all; done) | (simp [List.take_add_one, *]; done) | grind [List.take_add_one]), by ((try clear S); (try clear E); first | assumption | omega | rfl | (simp; done) | (simp_all; done) | (simp [List.take_add_one, *]; done) | grind [List.take_add_one])⟩ ?_
 try clear E
 try clear S
 try clear a
 try clear w
 rintro k a w ⟨a0, a1, S, E, b2, b3⟩
 replace h0 := h0.le a1
 replace h1 := h1.le a1
 refine QF (ZG E Y Y ?_)
 clear E a; intro a E
 refine ZB ?_
 refine QJ E Y (fun a4 => ?_) (fun a4 => ?_)
 ·refine zC ?_
  obtain ⟨b4, a5⟩ : ∃ x, (l1)[k]? = some x := ⟨_, List.getElem?_eq_getElem (by first | omega | (simp; done) | (simp; omega) | (simp_all; omega))⟩
  obtain ⟨b5, a6, a7⟩ := h1.at a5
  refine Yh E Y Y JE a6 Y fun _ B => Qz B Y Tryz.isAgg3 S.imm a7 fun _ C => Qx C Y fun _ D => QZ (Qq D Y ?_)
  clear E a B C D; intro a E
  have hset := h0
  obtain ⟨sb0, sm0, sq0, se0, shb0, shm0, shn0, shq0⟩ := hset
  have shq0l : sq0.length ≤ c0.length := Qn shn0 fun z hz => (shq0 z).1 hz
  refine QS E (Qb E Y se0) fun _ B => zw B Y (QG B (congrArg some se0) Tryz.isAgg145 S.imm (Jn shb0)) Y fun _ C => Qq C Y fun _ D => Ub S.imm shm0 D JJ Y Y fun _ F => Qq F Y fun _ G => Qj G Y Y fun _ I => Qj I Y Y ?_
  clear E a B C D F G I; intro a E
  refine QB (ZL (cs := #[]) E S Y Tryz.zeroValue104 Y ?_)
  clear E a S; rintro a w a8 E S
  refine Jq (Je (us := []) E S Y Y (Tryz.sizeOf104 _) Y (by intro u hu; cases hu) ?_)
  clear E a S; rintro a w E S
  replace S : St w a0 (Qh a8 (.cells #[] 104) :: _) := S
  have S0 := S; clear S
  obtain ⟨a2, a3, b6, S⟩ := S0.freezeB
  clear S0
  refine Qx E Y fun _ B => QZ (Qq B Y ?_)
  clear E a B; intro a E
  refine Jx ?_
  refine QJ E Y (fun a9 => ?_) (fun a9 => ?_)
  ·refine QF (Qx E Y ?_)
   clear E a; intro a E
   refine J_s (jd (qW ?_))
   exact Qk E Tryz.results190 Y ⟨_, Y, a2, (a1.trans a3), (cgB (by (first | exact (yl (by assumption) (by omega)).symm | exact (any_t1 (by assumption) (by simp_all)).symm))), S⟩
  ·refine qc (QY (m := ((k + 1 : Nat) : Int)) E Y Y fun _ B => Qq B Y ?_)
   clear E a B; intro a E
   refine Jx ?_
   exact ⟨k + 1, ⟨a2, (a1.trans a3), S, E.keep ⟨Y, Y, Y, Y, trivial⟩, by ((try clear S); (try clear E); first | assumption | omega | rfl | (simp; done) | (simp_all; done) | (simp [List.take_add_one, *]; done) | grind [List.take_add_one]), by ((try clear S); (try clear E); first | assumption | omega | rfl | (simp; done) | (simp_all; done) | (simp [List.take_add_one, *]; done) | grind [List.take_add_one])⟩, by omega⟩
 ·refine Um (Qx E Y ?_)
  clear E a; intro a E
  refine JQ ?_
  exact Qk E Tryz.results190 Y ⟨_, Y, a0, a1, (cgB (by (first | exact (yl (by assumption) (by omega)).symm | exact (any_t1 (by assumption) (by simp_all)).symm))), S⟩
theorem zy {M : Hp} {p0 : Nat} {v0 : Value} {c0 : List Int} (h0 : JH 145 M v0 c0) {v1 : Value} {l1 : List Int} (h1 : Zh M v1 l1)(b0 : c0.length ≤ 1000000000)  :
  Sp Tryz.prog (.func (.func 165) #[] #[]) M [.pointer (some ⟨p0, 0, none⟩), v1] [Qh p0 (.cells #[.int .i32 0, .int .u32 0, .int .u32 0, .int .u32 0, .int .i32 0, .int .i32 0, v0] 144)] (fun r M' C' => C' = [Qh p0 (.cells #[.int .i32 0, .int .u32 0, .int .u32 0, .int .u32 0, .int .i32 0, .int .i32 0, v0] 144)] ∧ (r = .bool (ZJ l1 c0))) := by
 refine Qu Tryz.func165 Y Tryz.ntmps165 Y Tryz.call165 ?_
 intro a w M1 H hM1 S E
 replace S : St w M1 (Qh p0 (.cells #[.int .i32 0, .int .u32 0, .int .u32 0, .int .u32 0, .int .i32 0, .int .i32 0, v0] 144) :: _) := S
 replace h0 := h0.le hM1
 replace h1 := h1.le hM1
 have hset := h0
 obtain ⟨sb0, sm0, sq0, se0, shb0, shm0, shn0, shq0⟩ := hset
 have shq0l : sq0.length ≤ c0.length := Qn shn0 fun z hz => (shq0 z).1 hz
 refine QF (Qx E Y fun _ B => QZ (Qq B Y fun _ C => QS C (Qb C Y Y) fun _ D => Qa D Y (Qs _) ?_))
 clear E a B C D; intro a E
 replace S : St w M1 (LK p0 144 0 v0 :: _) := S
 refine QB (QI (p := [LK p0 144 0 v0]) E S Y Y Y (QX Tryz.rwRLib (T := 144) (n := 0) (by decide) (by decide)) lerf ?_)
 clear E a S; rintro a _ w a2 _ a0 ⟨rfl, rfl⟩ S E
 replace S : St w a2 (Qh p0 (.cells #[.int .i32 0, .int .u32 0, .int .u32 0, .int .u32 0, .int .i32 1, .int .i32 0, v0] 144) :: H) := S
 replace h0 := h0.le a0
 replace h1 := h1.le a0
 refine QZ (Qq E Y fun _ B => QS B (Qb B Y Y) fun _ C => Qa C Y (QW _) fun _ D => JD D Y (Tryz.isAgg116 _) (QC (S.mem (.head _)) Y) fun _ F => Qq F Y ?_)
 clear E a B C D F; intro a E
 refine QB (Jm E S Y Y Y (Wu h0 h1 (by first | assumption | omega)) lerf ?_)
 clear E a S; rintro a _ w a3 a4 rfl S E
 refine Qx E Y fun _ B => QZ (Qq B Y fun _ C => QS C (Qb C Y Y) fun _ D => Qa D Y (Qs _) ?_)
 clear E a B C D; intro a E
 replace S : St w a3 (LK p0 144 (0 + 1) v0 :: _) := S
 refine QB (QI (p := [LK p0 144 (0 + 1) v0]) E S Y Y Y (QP Tryz.rwRLib (T := 144) (n := 0) (by decide) (by decide)) lerf ?_)
 clear E a S; rintro a _ w a1 _ a5 ⟨rfl, rfl⟩ S E
 replace S : St w a1 (Qh p0 (.cells #[.int .i32 0, .int .u32 0, .int .u32 0, .int .u32 0, .int .i32 0, .int .i32 0, v0] 144) :: H) := S
 refine QZ (JR 2 E Y ?_)
 clear E a; intro a E
 refine JQ ?_
 exact Qk E Tryz.results165 Y ⟨_, Y, a1, _, (a0.trans (a4.trans a5)), ⟨Y, Y⟩, S⟩
theorem GU {M : Hp} {x0 : Bool} {v : Value} {t : List RG} {i : Nat} {x : RG} {v1 : Value} {l1 : List Int} (hx : t[i]? = some x) (h1 : Zh M v1 l1) (hb : x.2.2.length ≤ 1000000000) :
  QD Tryz.prog (Zx KS x0 x) "ContainsAny" M [v1] [QK KS x0 v t] (fun r _ C' => ∃ D, C' = QK KS x0 v t :: D ∧ (r = (.bool (ZJ l1 x.2.2)) ∧ D = [])) := by
 refine Yx hx fun M' hM hr => ?_
 cases x0
 ·exact ZM (F := [Zc KS false x]) (QD.of_pu (fun w => Uz _ w) Tryz.call190 (Wu hr (h1.le hM) hb)) fun r M2 C h => h
 ·exact (QD.of_sp (fun w => UD _ w) Tryz.call165 (zy hr (h1.le hM) hb)).mono fun r M2 C ⟨h1, h2⟩ => ⟨[], h1, h2, Y⟩
theorem Wt {M : Hp} {v0 : Value} {c0 : List Int} (h0 : JH 145 M v0 c0) {x1 : Int} (b0 : c0.length ≤ 1000000000)  :
  Pu Tryz.prog (.func (.func 192) #[] #[]) M [v0, .int .i64 x1] (fun r M' => r = .bool (decide (x1 ∈ c0))) := by
 refine Jt Tryz.func192 Y Tryz.ntmps192 Y Tryz.call192 ?_
 intro a w M1 H hM1 S E
 replace h0 := h0.le hM1
 refine QF (Qx E Y fun _ B => QZ (Qq B Y ?_))
 clear E a B; intro a E
 have hset := h0
 obtain ⟨sb0, sm0, sq0, se0, shb0, shm0, shn0, shq0⟩ := hset
 have shq0l : sq0.length ≤ c0.length := Qn shn0 fun z hz => (shq0 z).1 hz
 refine QS E (Qb E Y se0) fun _ B => zw B Y (QG B (congrArg some se0) Tryz.isAgg145 S.imm (Jn shb0)) Y fun _ C => Qq C Y fun _ D => Ub S.imm shm0 D JJ Y Y fun _ F => Qq F Y fun _ G => Qj G Y Y fun _ I => Qj I Y Y ?_
 clear E a B C D F G I; intro a E
 refine QB (ZL (cs := #[]) E S Y Tryz.zeroValue104 Y ?_)
 clear E a S; rintro a w a0 E S
 refine Jq (Je (us := []) E S Y Y (Tryz.sizeOf104 _) Y (by intro u hu; cases hu) ?_)
 clear E a S; rintro a w E S
 replace S : St w M1 (Qh a0 (.cells #[] 104) :: _) := S
 have S0 := S; clear S
 obtain ⟨a1, a2, a3, S⟩ := S0.freezeB
 clear S0
 refine Qx E Y fun _ B => QZ (JR 2 B Y ?_)
 clear E a B; intro a E
 refine JQ ?_
 exact Qk E Tryz.results192 Y ⟨_, Y, a1, a2, (cgB (by (simp [*]; done))), S⟩
theorem zx {M : Hp} {p0 : Nat} {v0 : Value} {c0 : List Int} (h0 : JH 145 M v0 c0) {x1 : Int} (b0 : c0.length ≤ 1000000000)  :
  Sp Tryz.prog (.func (.func 167) #[] #[]) M [.pointer (some ⟨p0, 0, none⟩), .int .i64 x1] [Qh p0 (.cells #[.int .i32 0, .int .u32 0, .int .u32 0, .int .u32 0, .int .i32 0, .int .i32 0, v0] 144)] (fun r M' C' => C' = [Qh p0 (.cells #[.int .i32 0, .int .u32 0, .int .u32 0, .int .u32 0, .int .i32 0, .int .i32 0, v0] 144)] ∧ (r = .bool (decide (x1 ∈ c0)))) := by
 refine Qu Tryz.func167 Y Tryz.ntmps167 Y Tryz.call167 ?_
 intro a w M1 H hM1 S E
 replace S : St w M1 (Qh p0 (.cells #[.int .i32 0, .int .u32 0, .int .u32 0, .int .u32 0, .int .i32 0, .int .i32 0, v0] 144) :: _) := S
 replace h0 := h0.le hM1
 have hset := h0
 obtain ⟨sb0, sm0, sq0, se0, shb0, shm0, shn0, shq0⟩ := hset
 have shq0l : sq0.length ≤ c0.length := Qn shn0 fun z hz => (shq0 z).1 hz
 refine QF (Qx E Y fun _ B => QZ (Qq B Y fun _ C => QS C (Qb C Y Y) fun _ D => Qa D Y (Qs _) ?_))
 clear E a B C D; intro a E
 replace S : St w M1 (LK p0 144 0 v0 :: _) := S
 refine QB (QI (p := [LK p0 144 0 v0]) E S Y Y Y (QX Tryz.rwRLib (T := 144) (n := 0) (by decide) (by decide)) lerf ?_)
 clear E a S; rintro a _ w a2 _ a0 ⟨rfl, rfl⟩ S E
 replace S : St w a2 (Qh p0 (.cells #[.int .i32 0, .int .u32 0, .int .u32 0, .int .u32 0, .int .i32 1, .int .i32 0, v0] 144) :: H) := S
 replace h0 := h0.le a0
 refine QZ (Qq E Y fun _ B => QS B (Qb B Y Y) fun _ C => Qa C Y (QW _) fun _ D => JD D Y (Tryz.isAgg116 _) (QC (S.mem (.head _)) Y) fun _ F => Qq F Y ?_)
 clear E a B C D F; intro a E
 refine QB (Jm E S Y Y Y (Wt h0 (by first | assumption | omega)) lerf ?_)
 clear E a S; rintro a _ w a3 a4 rfl S E
 refine Qx E Y fun _ B => QZ (Qq B Y fun _ C => QS C (Qb C Y Y) fun _ D => Qa D Y (Qs _) ?_)
 clear E a B C D; intro a E
 replace S : St w a3 (LK p0 144 (0 + 1) v0 :: _) := S
 refine QB (QI (p := [LK p0 144 (0 + 1) v0]) E S Y Y Y (QP Tryz.rwRLib (T := 144) (n := 0) (by decide) (by decide)) lerf ?_)
 clear E a S; rintro a _ w a1 _ a5 ⟨rfl, rfl⟩ S E
 replace S : St w a1 (Qh p0 (.cells #[.int .i32 0, .int .u32 0, .int .u32 0, .int .u32 0, .int .i32 0, .int .i32 0, v0] 144) :: H) := S
 refine QZ (JR 2 E Y ?_)
 clear E a; intro a E
 refine JQ ?_
 exact Qk E Tryz.results167 Y ⟨_, Y, a1, _, (a0.trans (a4.trans a5)), ⟨Y, Y⟩, S⟩
theorem GT {M : Hp} {x0 : Bool} {v : Value} {t : List RG} {i : Nat} {x : RG} {a : Int} (hx : t[i]? = some x) (hb : x.2.2.length ≤ 1000000000) :
  QD Tryz.prog (Zx KS x0 x) "ContainsOne" M [.int .i64 a] [QK KS x0 v t] (fun r _ C' => ∃ D, C' = QK KS x0 v t :: D ∧ (r = (.bool (decide (a ∈ x.2.2))) ∧ D = [])) := by
 refine Yx hx fun M' hM hr => ?_
 cases x0
 ·exact ZM (F := [Zc KS false x]) (QD.of_pu (fun w => Uy _ w) Tryz.call192 (Wt hr hb)) fun r M2 C h => h
 ·exact (QD.of_sp (fun w => UC _ w) Tryz.call167 (zx hr hb)).mono fun r M2 C ⟨h1, h2⟩ => ⟨[], h1, h2, Y⟩
theorem Wv {M : Hp} {p0 : Nat} {v0 : Value} {c0 : List Int} (h0 : JH 145 M v0 c0) (b0 : c0.length ≤ 1000000000)  :
  Sp Tryz.prog (.func (.func 161) #[] #[]) M [.pointer (some ⟨p0, 0, none⟩)] [Qh p0 (.cells #[.int .i32 0, .int .u32 0, .int .u32 0, .int .u32 0, .int .i32 0, .int .i32 0, v0] 144)] (fun r M' C' => C' = [Qh p0 (.cells #[.int .i32 0, .int .u32 0, .int .u32 0, .int .u32 0, .int .i32 0, .int .i32 0, v0] 144)] ∧ (r = .int .i64 ((Jd c0 : Nat) : Int))) := by
 refine Qu Tryz.func161 Y Tryz.ntmps161 Y Tryz.call161 ?_
 intro a w M1 H hM1 S E
 replace S : St w M1 (Qh p0 (.cells #[.int .i32 0, .int .u32 0, .int .u32 0, .int .u32 0, .int .i32 0, .int .i32 0, v0] 144) :: _) := S
 replace h0 := h0.le hM1
 have hset := h0
 obtain ⟨sb0, sm0, sq0, se0, shb0, shm0, shn0, shq0⟩ := hset
 have shq0l : sq0.length ≤ c0.length := Qn shn0 fun z hz => (shq0 z).1 hz
 refine QF (Qx E Y fun _ B => QZ (Qq B Y fun _ C => QS C (Qb C Y Y) fun _ D => Qa D Y (Qs _) ?_))
 clear E a B C D; intro a E
 replace S : St w M1 (LK p0 144 0 v0 :: _) := S
 refine QB (QI (p := [LK p0 144 0 v0]) E S Y Y Y (QX Tryz.rwRLib (T := 144) (n := 0) (by decide) (by decide)) lerf ?_)
 clear E a S; rintro a _ w a0 _ a1 ⟨rfl, rfl⟩ S E
 replace S : St w a0 (Qh p0 (.cells #[.int .i32 0, .int .u32 0, .int .u32 0, .int .u32 0, .int .i32 1, .int .i32 0, v0] 144) :: H) := S
 replace shb0 := a1.2 _ _ shb0
 replace shm0 := shm0.le a1
 refine QZ (Qq E Y fun _ B => QS B (Qb B Y Y) fun _ C => Qa C Y (Qs _) ?_)
 clear E a B C; intro a E
 refine Vg E Y Y ?_
 clear E a; intro a E
 replace E : Env a 17 [⟨.fn (.func 186) #[], #[.pointer (some ⟨p0, 0, none⟩)]⟩] _ := E
 refine QZ (Qq E Y fun _ B => QS B (Qb B Y Y) fun _ C => Qa C Y (QW _) fun _ D => JD D Y (Tryz.isAgg116 _) (QC (S.mem (.head _)) Y) fun _ F => QS F (Qb F Y se0) fun _ G => zw G Y (QG G (congrArg some se0) Tryz.isAgg145 S.imm (Jn shb0)) Y fun _ I => QS I ((zb S.imm shm0 I JJ Y).trans (by rw [Yg])) fun _ J => Qx J Y ?_)
 clear E a B C D F G I J; intro a E
 refine JQ ?_
 refine jz E Tryz.results161 Y (fun hres => ?_)
 clear E
 replace S : St w a0 (LK p0 144 (0 + 1) v0 :: _) := S
 refine YY Tryz.rwRLib (n := 0) (by decide) (by decide) S (fun w S => ?_)
 replace S : St w a0 (Qh p0 (.cells #[.int .i32 0, .int .u32 0, .int .u32 0, .int .u32 0, .int .i32 0, .int .i32 0, v0] 144) :: H) := S
 exact GF (hres _) ⟨_, Y, a0, _, a1, ⟨Y, (congrArg (Value.int .i64) (by (congr 1; exact Wb (by assumption) (by assumption))))⟩, S⟩
theorem GV {M : Hp} {x0 : Bool} {v : Value} {t : List RG} {i : Nat} {x : RG} (hx : t[i]? = some x) (hb : x.2.2.length ≤ 1000000000) :
  QD Tryz.prog (Zx KS x0 x) "Cardinality" M [] [QK KS x0 v t] (fun r _ C' => ∃ D, C' = QK KS x0 v t :: D ∧ (r = (.int .i64 ((Jd x.2.2 : Nat) : Int)) ∧ D = [])) := by
 refine Yx hx fun M' hM hr => ?_
 cases x0
 ·exact ZM (F := [Zc KS false x]) (QD.of_pu (fun w => JO _ w) Tryz.call205 (QR hr hb)) fun r M2 C h => h
 ·exact (QD.of_sp (fun w => UE _ w) Tryz.call161 (Wv hr hb)).mono fun r M2 C ⟨h1, h2⟩ => ⟨[], h1, h2, Y⟩
theorem vR {M : Hp} {v0 : Value} {c0 : List Int} (h0 : JH 145 M v0 c0) (b0 : c0.length ≤ 1000000000)  :
  Pu Tryz.prog (.func (.func 209) #[] #[]) M [v0] (fun r M' => r = .bool (decide (((Jd c0 : Nat) : Int) = 0))) := by
 refine Jt Tryz.func209 Y Tryz.ntmps209 Y Tryz.call209 ?_
 intro a w M1 H hM1 S E
 replace h0 := h0.le hM1
 refine QF (Qx E Y fun _ B => QZ (Qq B Y ?_))
 clear E a B; intro a E
 refine QB (Jm E S Y Y Y (QR h0 (by first | assumption | omega)) lerf ?_)
 clear E a S; rintro a _ w a0 a1 rfl S E
 refine Jh E Y Y fun _ B => Qx B Y ?_
 clear E a B; intro a E
 refine JQ ?_
 exact Qk E Tryz.results209 Y ⟨_, Y, a0, a1, Y, S⟩
theorem vU {M : Hp} {p0 : Nat} {v0 : Value} {c0 : List Int} (h0 : JH 145 M v0 c0) (b0 : c0.length ≤ 1000000000)  :
  Sp Tryz.prog (.func (.func 172) #[] #[]) M [.pointer (some ⟨p0, 0, none⟩)] [Qh p0 (.cells #[.int .i32 0, .int .u32 0, .int .u32 0, .int .u32 0, .int .i32 0, .int .i32 0, v0] 144)] (fun r M' C' => C' = [Qh p0 (.cells #[.int .i32 0, .int .u32 0, .int .u32 0, .int .u32 0, .int .i32 0, .int .i32 0, v0] 144)] ∧ (r = .bool (decide (((Jd c0 : Nat) : Int) = 0)))) := by
 refine Qu Tryz.func172 Y Tryz.ntmps172 Y Tryz.call172 ?_
 intro a w M1 H hM1 S E
 replace S : St w M1 (Qh p0 (.cells #[.int .i32 0, .int .u32 0, .int .u32 0, .int .u32 0, .int .i32 0, .int .i32 0, v0] 144) :: _) := S
 replace h0 := h0.le hM1
 have hset := h0
 obtain ⟨sb0, sm0, sq0, se0, shb0, shm0, shn0, shq0⟩ := hset
 have shq0l : sq0.length ≤ c0.length := Qn shn0 fun z hz => (shq0 z).1 hz
 refine QF (Qx E Y fun _ B => QZ (Qq B Y ?_))
 clear E a B; intro a E
 refine QB (QI (p := [Qh p0 (.cells #[.int .i32 0, .int .u32 0, .int .u32 0, .int .u32 0, .int .i32 0, .int .i32 0, v0] 144)]) E S Y Y Y (Wv h0 (by first | assumption | omega)) lerf ?_)
 clear E a S; rintro a _ w a0 _ a1 ⟨rfl, rfl⟩ S E
 replace S : St w a0 (Qh p0 (.cells #[.int .i32 0, .int .u32 0, .int .u32 0, .int .u32 0, .int .i32 0, .int .i32 0, v0] 144) :: H) := S
 refine Jh E Y Y fun _ B => Qx B Y ?_
 clear E a B; intro a E
 refine JQ ?_
 exact Qk E Tryz.results172 Y ⟨_, Y, a0, _, a1, ⟨Y, Y⟩, S⟩
theorem jR {M : Hp} {x0 : Bool} {v : Value} {t : List RG} {i : Nat} {x : RG} (hx : t[i]? = some x) (hb : x.2.2.length ≤ 1000000000) :
  QD Tryz.prog (Zx KS x0 x) "IsEmpty" M [] [QK KS x0 v t] (fun r _ C' => ∃ D, C' = QK KS x0 v t :: D ∧ (r = (.bool (decide (((Jd x.2.2 : Nat) : Int) = 0))) ∧ D = [])) := by
 refine Yx hx fun M' hM hr => ?_
 cases x0
 ·exact ZM (F := [Zc KS false x]) (QD.of_pu (fun w => Gu _ w) Tryz.call209 (vR hr hb)) fun r M2 C h => h
 ·exact (QD.of_sp (fun w => Gw _ w) Tryz.call172 (vU hr hb)).mono fun r M2 C ⟨h1, h2⟩ => ⟨[], h1, h2, Y⟩
theorem vQ {M : Hp} {m0 : Value} {q0 c0 : List Int} (hm0 : qZ M m0 (Sl.encS q0)) (hn0 : q0.Nodup) (hq0 : ∀ x, x ∈ q0 ↔ x ∈ c0) (b0 : c0.length ≤ 1000000000)  :
  Sp Tryz.prog (.func (.func 213) #[] #[]) M [m0] [] (fun r M' C' => ∃ l, C' = [Zi 3 r l] ∧ l.Nodup ∧ ∀ x, x ∈ l ↔ x ∈ c0) := by
 refine Qu Tryz.func213 Y Tryz.ntmps213 Y Tryz.call213 ?_
 intro a w M1 H hM1 S E
 replace hm0 := hm0.le hM1
 have hql0 : q0.length ≤ c0.length := Qn hn0 fun z hz => (hq0 z).1 hz
 have hcl0 := JY c0
 refine QF ?_
 refine QB (Yz (cs := #[m0]) E S Y Y (cells_one (qZ.one' hm0)) ?_)
 clear E a S; rintro a w a9 E S
 obtain ⟨b1, a8, a2, S⟩ := S.freezeB
 replace hm0 := hm0.le a8
 refine Qx E Y ?_
 clear E a; intro a E
 refine QZ ?_
 refine QB (Jm E S Y Y Y (QR (⟨_, _, _, Y, a2, hm0, hn0, hq0⟩ : JH 145 b1 (.pointer (some ⟨a9, 0, none⟩)) c0) (by first | assumption | omega)) lerf ?_)
 clear E a S; rintro a _ w a4 a5 rfl S E
 replace hm0 := hm0.le a5
 replace a2 := a5.2 _ _ a2
 refine QB (Wg (k := Jd c0) E S Y Y Y JE Y (by omega) (by omega) (by omega) ?_)
 clear E a S; rintro a w b2 E S
 replace S := S.made0
 refine Qx E Y fun _ B => VM (Qz B Y Tryz.isAgg145 S.imm (Jn a2) ?_)
 clear E a B; intro a E
 refine QB (Zz E S Y JJ hm0 Y ?_)
 clear E a S; rintro a w a6 es_6 ck_7 E a3 S
 replace S : St w a4 (Ys m0 es_6 ck_7 a6 (Sl.encS ([] : List Int)) :: _) := S
 refine VJ ?_
 replace S := S.front1.front1.front1
 replace S := S.re1 (l' := []) (by (first | rfl | (simp [Qe]; done) | (simp [Qe, List.filter_append, *]; done)))
 replace S := S.front1
 replace S := S.reIt (p' := (Sl.encS [])) (congrArg Sl.encS (show ([] : List Int) = [] by (first | rfl | (simp [Qe]; done) | (simp [Qe, List.filter_append, *]; done))))
 refine Jb (γ := List Int) (fun (p : List Int) a w => ∃ (a1 : Hp) (u3 : Value), Hp.le a4 a1 ∧ St w a1 (Ys m0 es_6 ck_7 a6 (Sl.encS p) :: Zi 3 u3 p :: H) ∧ Env a 18 [] [(3, u3), (8, .pointer (some ⟨a6, 0, none⟩))] ∧ (p.Nodup) ∧ (∀ z ∈ p, z ∈ q0) ∧ (p.length ≤ q0.length)) (fun p => q0.length - p.length) [] ⟨a4, _, lerf, S, E.keep ⟨Y, Y, trivial⟩, (by simp), (by simp), (by simp)⟩ ?_
 try clear E
 try clear S
 try clear a
 try clear w
 rintro p a w ⟨a1, u3, a7, S, E, b3, b4, b5⟩
 replace a3 := a3.le a7
 refine QF ?_
 refine QB (ZK E S Y a3 Y (by assumption) (by assumption) ?_ ?_)
 ·clear E a S; rintro a E hpm_10 S
  refine Qj E Y Y ?_
  clear E a; intro a E
  refine ZB ?_
  refine QL E Y Y ?_
  refine Um (JR 2 E Y ?_)
  clear E a; intro a E
  refine JQ ?_
  replace S := S.drop
  exact Qk E Tryz.results213 Y ⟨_, Y, a1, _, (a8.trans (a5.trans a7)), ⟨_, Y, (by assumption), (by (intro x; exact (List.Perm.mem_iff (by first | assumption | (exact List.Perm.symm (by assumption)))).trans (hq0 x)))⟩, S⟩
 ·clear E a S w; rintro a w a0 E hk_12 hk_12n hk_12l S
  refine Qj E Y Y ?_
  clear E a; intro a E
  refine ZB ?_
  refine Jj E Y Y ?_
  refine Ja (JG (Jw (QF (Zy (k := a0) (v := .agg #[]) E (by have S1 := S; simp only [Sl.encS, List.map_append, List.map_cons, List.map_nil] at S1; exact S1) a3 Y fun _ B => Qj B Y Y fun _ C => Qx C Y fun _ D => qd (JR 2 D Y ?_)))))
  clear E a B C D; intro a E
  refine QB (Jf (ys := [a0]) E S Y JE Y Y Y ?_)
  clear E a S; rintro a w b6 E S
  replace S := S.front2.front1
  refine QB (JS (xs := p) (ys := [a0]) E S Y Y Y JE (by (simp; omega)) ?_)
  clear E a S; rintro a w b7 E S
  refine Qx E Y ?_
  clear E a; intro a E
  refine QQ (ZN (JG ?_))
  replace S := S.front1.front1
  replace S := S.re1 (l' := (p ++ [a0])) (by (first | rfl | (simp [Qe]; done) | (simp [Qe, List.filter_append, *]; done)))
  replace S := S.front1
  replace S := S.reIt (p' := (Sl.encS (p ++ [a0]))) (congrArg Sl.encS (show p ++ [a0] = (p ++ [a0]) by (first | rfl | (simp [Qe]; done) | (simp [Qe, List.filter_append, *]; done))))
  exact ⟨(p ++ [a0]), ⟨a1, _, a7, S, E.keep ⟨Y, Y, trivial⟩, (by exact Yn (by assumption) (by assumption)), (by exact Yt (by assumption) (by assumption)), (by simp; omega)⟩, (by simp; omega)⟩
theorem vT {M : Hp} {p0 : Nat} {v0 : Value} {c0 : List Int} (h0 : JH 145 M v0 c0) (b0 : c0.length ≤ 1000000000)  :
  Sp Tryz.prog (.func (.func 182) #[] #[]) M [.pointer (some ⟨p0, 0, none⟩)] [Qh p0 (.cells #[.int .i32 0, .int .u32 0, .int .u32 0, .int .u32 0, .int .i32 0, .int .i32 0, v0] 144)] (fun r M' C' => ∃ l_, C' = [Qh p0 (.cells #[.int .i32 0, .int .u32 0, .int .u32 0, .int .u32 0, .int .i32 0, .int .i32 0, v0] 144), Zi 3 r l_] ∧ (l_.Nodup) ∧ (∀ x, x ∈ l_ ↔ x ∈ c0)) := by
 refine Qu Tryz.func182 Y Tryz.ntmps182 Y Tryz.call182 ?_
 intro a w M1 H hM1 S E
 replace S : St w M1 (Qh p0 (.cells #[.int .i32 0, .int .u32 0, .int .u32 0, .int .u32 0, .int .i32 0, .int .i32 0, v0] 144) :: _) := S
 replace h0 := h0.le hM1
 have hset := h0
 obtain ⟨sb0, sm0, sq0, se0, shb0, shm0, shn0, shq0⟩ := hset
 have shq0l : sq0.length ≤ c0.length := Qn shn0 fun z hz => (shq0 z).1 hz
 refine QF (Qx E Y fun _ B => QZ (Qq B Y fun _ C => QS C (Qb C Y Y) fun _ D => Qa D Y (Qs _) ?_))
 clear E a B C D; intro a E
 replace S : St w M1 (LK p0 144 0 v0 :: _) := S
 refine QB (QI (p := [LK p0 144 0 v0]) E S Y Y Y (QX Tryz.rwRLib (T := 144) (n := 0) (by decide) (by decide)) lerf ?_)
 clear E a S; rintro a _ w a3 _ a5 ⟨rfl, rfl⟩ S E
 replace S : St w a3 (Qh p0 (.cells #[.int .i32 0, .int .u32 0, .int .u32 0, .int .u32 0, .int .i32 1, .int .i32 0, v0] 144) :: H) := S
 replace shb0 := a5.2 _ _ shb0
 replace shm0 := shm0.le a5
 refine QZ (Qq E Y fun _ B => QS B (Qb B Y Y) fun _ C => Qa C Y (QW _) fun _ D => JD D Y (Tryz.isAgg116 _) (QC (S.mem (.head _)) Y) fun _ F => QS F (Qb F Y se0) fun _ G => zw G Y (QG G (congrArg some se0) Tryz.isAgg145 S.imm (Jn shb0)) Y fun _ I => QS I ((zb S.imm shm0 I JJ Y).trans (by rw [Yg])) fun _ J => Qx J Y fun _ K => QZ (Qq K Y ?_))
 clear E a B C D F G I J K; intro a E
 refine QB (Wg (k := (sq0).length) E S Y Y Y JE Y (by omega) (by omega) (by omega) ?_)
 clear E a S; rintro a w a9 E S
 replace S := S.made0
 refine Qx E Y fun _ B => VM (Qq B Y fun _ C => QS C (Qb C Y Y) fun _ D => Qa D Y (QW _) fun _ F => JD F Y (Tryz.isAgg116 _) (QC (S.mem (.tail _ (.head _))) Y) fun _ G => QS G (Qb G Y se0) fun _ I => zw I Y (QG I (congrArg some se0) Tryz.isAgg145 S.imm (Jn shb0)) Y ?_)
 clear E a B C D F G I; intro a E
 refine QB (Zz E S Y JJ shm0 Y ?_)
 clear E a S; rintro a w a4 es_4 ck_5 E a1 S
 replace S : St w a3 (Ys sm0 es_4 ck_5 a4 (Sl.encS ([] : List Int)) :: _) := S
 refine VJ ?_
 replace S := S.front1.front1.front1
 replace S := S.re1 (l' := []) (by (first | rfl | (simp [Qe]; done) | (simp [Qe, List.filter_append, *]; done)))
 replace S := S.front1
 replace S := S.reIt (p' := (Sl.encS [])) (congrArg Sl.encS (show ([] : List Int) = [] by (first | rfl | (simp [Qe]; done) | (simp [Qe, List.filter_append, *]; done))))
 refine Jb (γ := List Int) (fun (p : List Int) a w => ∃ (a2 : Hp) (u4 : Value), Hp.le a3 a2 ∧ St w a2 (Ys sm0 es_4 ck_5 a4 (Sl.encS p) :: Zi 3 u4 p :: Qh p0 (.cells #[.int .i32 0, .int .u32 0, .int .u32 0, .int .u32 0, .int .i32 1, .int .i32 0, v0] 144) :: H) ∧ Env a 39 [] [(0, .pointer (some ⟨p0, 0, none⟩)), (4, u4), (25, .pointer (some ⟨a4, 0, none⟩))] ∧ (p.Nodup) ∧ (∀ z ∈ p, z ∈ sq0) ∧ (p.length ≤ sq0.length)) (fun p => sq0.length - p.length) [] ⟨a3, _, lerf, S, E.keep ⟨Y, Y, Y, trivial⟩, (by simp), (by simp), (by simp)⟩ ?_
 try clear E
 try clear S
 try clear a
 try clear w
 rintro p a w ⟨a2, u4, a6, S, E, b1, b2, b3⟩
 replace a1 := a1.le a6
 refine QF ?_
 refine QB (ZK E S Y a1 Y (by assumption) (by assumption) ?_ ?_)
 ·clear E a S; rintro a E hpm_8 S
  refine Qj E Y Y ?_
  clear E a; intro a E
  refine ZB ?_
  refine QL E Y Y ?_
  refine Um (Qq E Y fun _ B => QS B (Qb B Y Y) fun _ C => Qa C Y (Qs _) ?_)
  clear E a B C; intro a E
  replace S := S.front2
  replace S : St w a2 (LK p0 144 (0 + 1) v0 :: _) := S
  refine QB (QI (p := [LK p0 144 (0 + 1) v0]) E S Y Y Y (QP Tryz.rwRLib (T := 144) (n := 0) (by decide) (by decide)) lerf ?_)
  clear E a S; rintro a _ w a7 _ a8 ⟨rfl, rfl⟩ S E
  replace S : St w a7 (Qh p0 (.cells #[.int .i32 0, .int .u32 0, .int .u32 0, .int .u32 0, .int .i32 0, .int .i32 0, v0] 144) :: Ys sm0 es_4 ck_5 a4 (Sl.encS p) :: Zi 3 u4 p :: H) := S
  replace a1 := a1.le a8
  refine QZ (JR 2 E Y ?_)
  clear E a; intro a E
  refine JQ ?_
  replace S := S.front1.drop.front1.front1
  exact Qk E Tryz.results182 Y ⟨_, Y, a7, _, (a5.trans (a6.trans a8)), ⟨_, Y, (by assumption), (by (intro x; exact (List.Perm.mem_iff (by first | assumption | (exact List.Perm.symm (by assumption)))).trans (shq0 x)))⟩, S⟩
 ·clear E a S w; rintro a w a0 E hk_11 hk_11n hk_11l S
  refine Qj E Y Y ?_
  clear E a; intro a E
  refine ZB ?_
  refine Jj E Y Y ?_
  refine Ja (JG (Jw (QF (Zy (k := a0) (v := .agg #[]) E (by have S1 := S; simp only [Sl.encS, List.map_append, List.map_cons, List.map_nil] at S1; exact S1) a1 Y fun _ B => Qj B Y Y fun _ C => Qx C Y fun _ D => qd (JR 2 D Y ?_)))))
  clear E a B C D; intro a E
  refine QB (Jf (ys := [a0]) E S Y JE Y Y Y ?_)
  clear E a S; rintro a w b4 E S
  replace S := S.front2.front1
  refine QB (JS (xs := p) (ys := [a0]) E S Y Y Y JE (by (simp; omega)) ?_)
  clear E a S; rintro a w b5 E S
  refine Qx E Y ?_
  clear E a; intro a E
  refine QQ (ZN (JG ?_))
  replace S := S.front2.front1.front2.front1
  replace S := S.re1 (l' := (p ++ [a0])) (by (first | rfl | (simp [Qe]; done) | (simp [Qe, List.filter_append, *]; done)))
  replace S := S.front1
  replace S := S.reIt (p' := (Sl.encS (p ++ [a0]))) (congrArg Sl.encS (show p ++ [a0] = (p ++ [a0]) by (first | rfl | (simp [Qe]; done) | (simp [Qe, List.filter_append, *]; done))))
  exact ⟨(p ++ [a0]), ⟨a2, _, a6, S, E.keep ⟨Y, Y, Y, trivial⟩, (by exact Yn (by assumption) (by assumption)), (by exact Yt (by assumption) (by assumption)), (by simp; omega)⟩, (by simp; omega)⟩
theorem jQ {M : Hp} {x0 : Bool} {v : Value} {t : List RG} {i : Nat} {x : RG} (hx : t[i]? = some x) (hb : x.2.2.length ≤ 1000000000) :
  QD Tryz.prog (Zx KS x0 x) "ToSlice" M [] [QK KS x0 v t] (fun r _ C' => ∃ D, C' = QK KS x0 v t :: D ∧ ∃ l, D = [Zi 3 r l] ∧ l.Nodup ∧ ∀ z, z ∈ l ↔ z ∈ x.2.2) := by
 refine Yx hx fun M' hM hr => ?_
 cases x0
 ·obtain ⟨b0, m0, q0, e, hb0, hm, hn, hq⟩ := hr
  exact ZM (F := [Zc KS false x]) (QD.of_spS (fun w M1 H hM S => Gt e (Yi S.imm (Jn (hM.2 _ _ hb0)))) Tryz.call213 (vQ hm hn hq hb)) fun r M2 C h => h
 ·exact (QD.of_sp (fun w => Gv _ w) Tryz.call182 (vT hr hb)).mono fun r M2 C ⟨l, h1, h2⟩ => ⟨[Zi 3 r l], h1, l, Y, h2⟩
set_option maxRecDepth 100000 in
set_option maxHeartbeats 4000000 in
def Tryz.lsort_ren : Go.Shelf.Ren := ⟨fun | 5 => 57 | 8 => 82 | 7 => 81 | 19 => 104 | 20 => 105 | 10 => 95 | 11 => 96 | 12 => 97 | 13 => 98 | 14 => 99 | 15 => 100 | 16 => 101 | 17 => 102 | 18 => 103 | 30 => 112 | 31 => 113 | 32 => 114 | 33 => 115 | 34 => 116 | 35 => 117 | 40 => 131 | n => n, fun | 23 => 22 | 25 => 3 | 3 => 3 | 32 => 113 | 22 => 22 | 0 => 0 | 44 => 130 | 46 => 132 | 4 => 4 | 36 => 123 | 35 => 122 | 41 => 93 | 5 => 5 | 9 => 9 | 53 => 148 | 57 => 152 | 63 => 162 | 64 => 163 | n => n, fun | n => n⟩
set_option maxRecDepth 100000 in
set_option maxHeartbeats 4000000 in
theorem Tryz.lsort : Go.Proofs.SlLaysM.n5 Tryz.prog Tryz.lsort_ren := {
  mixed := by kernel_rfl,
  f5 := ⟨Tryz.f57.name, by decide, Tryz.func57.trans (congrArg some (by kernel_rfl))⟩,
  f7 := ⟨Tryz.f81.name, by decide, Tryz.func81.trans (congrArg some (by kernel_rfl))⟩,
  f8 := Tryz.func82.trans (congrArg some (by kernel_rfl)),
  f10 := ⟨Tryz.f95.name, by decide, Tryz.func95.trans (congrArg some (by kernel_rfl))⟩,
  f11 := ⟨Tryz.f96.name, by decide, Tryz.func96.trans (congrArg some (by kernel_rfl))⟩,
  f12 := ⟨Tryz.f97.name, by decide, Tryz.func97.trans (congrArg some (by kernel_rfl))⟩,
  f13 := ⟨Tryz.f98.name, by decide, Tryz.func98.trans (congrArg some (by kernel_rfl))⟩,
  f14 := ⟨Tryz.f99.name, by decide, Tryz.func99.trans (congrArg some (by kernel_rfl))⟩,
  f15 := ⟨Tryz.f100.name, by decide, Tryz.func100.trans (congrArg some (by kernel_rfl))⟩,
  f16 := ⟨Tryz.f101.name, by decide, Tryz.func101.trans (congrArg some (by kernel_rfl))⟩,
  f17 := ⟨Tryz.f102.name, by decide, Tryz.func102.trans (congrArg some (by kernel_rfl))⟩,
  f18 := ⟨Tryz.f103.name, by decide, Tryz.func103.trans (congrArg some (by kernel_rfl))⟩,
  f19 := Tryz.func104.trans (congrArg some (by kernel_rfl)),
  f20 := Tryz.func105.trans (congrArg some (by kernel_rfl)),
  f30 := ⟨Tryz.f112.name, by decide, Tryz.func112.trans (congrArg some (by kernel_rfl))⟩,
  f31 := Tryz.func113.trans (congrArg some (by kernel_rfl)),
  f32 := Tryz.func114.trans (congrArg some (by kernel_rfl)),
  f33 := ⟨Tryz.f115.name, by decide, Tryz.func115.trans (congrArg some (by kernel_rfl))⟩,
  f34 := ⟨Tryz.f116.name, by decide, Tryz.func116.trans (congrArg some (by kernel_rfl))⟩,
  f35 := ⟨Tryz.f117.name, by decide, Tryz.func117.trans (congrArg some (by kernel_rfl))⟩,
  f40 := ⟨Tryz.f131.name, by decide, Tryz.func131.trans (congrArg some (by kernel_rfl))⟩,
  t0 := Tryz.underlying0,
  a0 := Tryz.isAgg0,
  z0 := Tryz.sizeOf0,
  v0 := Tryz.zeroValue0,
  t3 := Tryz.underlying3,
  a3 := Tryz.isAgg3,
  z3 := Tryz.sizeOf3,
  v3 := Tryz.zeroValue3,
  t4 := Tryz.underlying4,
  a4 := Tryz.isAgg4,
  z4 := Tryz.sizeOf4,
  v4 := Tryz.zeroValue4,
  t5 := Tryz.underlying5,
  a5 := Tryz.isAgg5,
  z5 := Tryz.sizeOf5,
  v5 := Tryz.zeroValue5,
  t9 := Tryz.underlying9,
  a9 := Tryz.isAgg9,
  z9 := Tryz.sizeOf9,
  v9 := Tryz.zeroValue9,
  t22 := Tryz.underlying22,
  a22 := Tryz.isAgg22,
  z22 := Tryz.sizeOf22,
  v22 := Tryz.zeroValue22,
  t23 := Tryz.underlying22,
  a23 := Tryz.isAgg22,
  z23 := Tryz.sizeOf22,
  v23 := Tryz.zeroValue22,
  t25 := Tryz.underlying3,
  a25 := Tryz.isAgg3,
  z25 := Tryz.sizeOf3,
  v25 := Tryz.zeroValue3,
  t32 := Tryz.underlying113,
  a32 := Tryz.isAgg113,
  z32 := Tryz.sizeOf113,
  v32 := Tryz.zeroValue113,
  t35 := Tryz.underlying122,
  a35 := Tryz.isAgg122,
  z35 := Tryz.sizeOf122,
  v35 := Tryz.zeroValue122,
  t36 := Tryz.underlying123,
  a36 := Tryz.isAgg123,
  z36 := Tryz.sizeOf123,
  v36 := Tryz.zeroValue123,
  t41 := Tryz.underlying93,
  a41 := Tryz.isAgg93,
  z41 := Tryz.sizeOf93,
  v41 := Tryz.zeroValue93,
  t44 := Tryz.underlying130,
  a44 := Tryz.isAgg130,
  z44 := Tryz.sizeOf130,
  v44 := Tryz.zeroValue130,
  t46 := Tryz.underlying132,
  a46 := Tryz.isAgg132,
  z46 := Tryz.sizeOf132,
  v46 := Tryz.zeroValue132,
  t53 := Tryz.underlying148,
  a53 := Tryz.isAgg148,
  z53 := Tryz.sizeOf148,
  v53 := Tryz.zeroValue148,
  t57 := Tryz.underlying152,
  a57 := Tryz.isAgg152,
  z57 := Tryz.sizeOf152,
  v57 := Tryz.zeroValue152,
  t63 := Tryz.underlying162,
  a63 := Tryz.isAgg162,
  z63 := Tryz.sizeOf162,
  v63 := Tryz.zeroValue162,
  t64 := Tryz.underlying163,
  a64 := Tryz.isAgg163,
  z64 := Tryz.sizeOf163,
  v64 := Tryz.zeroValue163 }
theorem GJ {M : Hp} {v0 : Value} {l0 : List Int} (b0 : l0.length ≤ 1000000000000) :
  Sp Tryz.prog (.func (.func 57) #[] #[]) M [v0] [Zi 3 v0 l0] (fun r M' C' => C' = [Zi 3 v0 (Vm l0)]) :=
 sort_sp Tryz.call57 (fun Qh off cap zs w a b c => AnyM.slices_Sort_int Tryz.lsort Qh off cap zs w a b c) (fun p cap w => AnyM.slices_Sort_int_none Tryz.lsort p cap w) b0
theorem yp {M : Hp} {x0 : Bool} {v1 : Value} {t9 : List RG} {i : Nat} {x : RG} (hx : t9[i]? = some x) (hb : x.2.2.length ≤ 1000000000) :
  Sp Tryz.prog (.func (.func 39) #[] #[]) M [Zx KS x0 x] [QK KS x0 v1 t9] (fun r M' C' => ∃ u_, C' = [QK KS x0 v1 t9] ∧ r = u_ ∧ (Zh M' u_ (Qw x.2.2))) := by
 refine Qu Tryz.func39 Y Tryz.ntmps39 Y Tryz.call39 ?_
 intro a w M1 H hM1 S E
 replace S : St w M1 (QK KS x0 v1 t9 :: _) := S
 refine QF (Qx E Y fun _ B => QZ (Qq B Y ?_))
 clear E a B; intro a E
 refine QB (ZU (p := [QK KS x0 v1 t9]) E S Y Y Y (jQ hx (by first | assumption | omega)) lerf ?_)
 clear E a S; rintro a a0 w a1 _ a2 ⟨_, rfl, l_2, rfl, hl_2n, hl_2m⟩ S E
 replace S : St w a1 (QK KS x0 v1 t9 :: Zi 3 a0 l_2 :: H) := S
 have hl_2l : l_2.length ≤ x.2.2.length := Qn hl_2n fun z hz => (hl_2m z).1 hz
 refine Qx E Y fun _ B => QZ (Qq B Y ?_)
 clear E a B; intro a E
 replace S := S.front1
 refine QB (QI (p := [Zi 3 a0 l_2]) E S Y Y Y (GJ (by (first | omega | (simp; omega) | (simp; done) | (simp_all; omega) | grind))) lerf ?_)
 clear E a S; rintro a a8 w a3 _ a4 rfl S E
 replace S : St w a3 (Zi 3 a0 (Vm l_2) :: _) := S
 refine QZ (JR 2 E Y ?_)
 clear E a; intro a E
 refine JQ ?_
 have S0 := S; clear S
 obtain ⟨a5, a6, a7, S⟩ := S0.freezeI (by (first | omega | (rw [Ye]; omega)))
 clear S0
 exact Qk E Tryz.results39 Y ⟨_, Y, a5, _, (a2.trans (a4.trans a6)), ⟨_, Y, Y, (by exact SLeq a7 (WI (by assumption) (by assumption)))⟩, S⟩
theorem U_Each {M : Hp} {v0 : Value} {c0 : List Int} (h0 : JH 145 M v0 c0) {v1 : Value} {J1 : List Int → Qm} (h1 : zf Tryz.prog v1 M J1) (b0 : c0.length ≤ 1000000000)  :
  Sp Tryz.prog (.func (.func 208) #[] #[]) M [v0, v1] [J1 ([] : List Int)] (fun r M' C' => ∃ p_, C' = [J1 p_] ∧ r = .tuple #[] ∧ (p_.Nodup) ∧ (∀ z, z ∈ p_ ↔ z ∈ c0)) := by
 refine Qu Tryz.func208 Y Tryz.ntmps208 Y Tryz.call208 ?_
 intro a w M1 H hM1 S E
 replace S : St w M1 (J1 ([] : List Int) :: _) := S
 replace h0 := h0.le hM1
 replace h1 := h1.le hM1
 refine QF (Qq E Y ?_)
 clear E a; intro a E
 have hset := h0
 obtain ⟨sb0, sm0, sq0, se0, shb0, shm0, shn0, shq0⟩ := hset
 have shq0l : sq0.length ≤ c0.length := Qn shn0 fun z hz => (shq0 z).1 hz
 refine QS E (Qb E Y se0) fun _ B => zw B Y (QG B (congrArg some se0) Tryz.isAgg145 S.imm (Jn shb0)) Y ?_
 clear E a B; intro a E
 refine QB (Zz E S Y JJ shm0 Y ?_)
 clear E a S; rintro a w a1 es_2 ck_3 E a2 S
 replace S : St w M1 (Ys sm0 es_2 ck_3 a1 (Sl.encS ([] : List Int)) :: _) := S
 refine VJ ?_
 replace S := S.front1.front1.front1
 replace S := S.reSt (C := J1) (s' := []) (by first | rfl | (simp; done))
 replace S := S.front1
 replace S := S.reIt (p' := (Sl.encS [])) (congrArg Sl.encS (show ([] : List Int) = [] by first | rfl | (simp; done)))
 refine Jb (γ := List Int) (fun (p : List Int) a w => ∃ (a3 : Hp), Hp.le M1 a3 ∧ St w a3 (Ys sm0 es_2 ck_3 a1 (Sl.encS p) :: J1 p :: H) ∧ Env a 16 [] [(1, v1), (8, .pointer (some ⟨a1, 0, none⟩))] ∧ (p.Nodup) ∧ (∀ z ∈ p, z ∈ sq0) ∧ (p.length ≤ sq0.length)) (fun p => sq0.length - p.length) [] ⟨M1, lerf, S, E.keep ⟨Y, Y, trivial⟩, (by simp), (by simp), (by simp)⟩ ?_
 try clear E
 try clear S
 try clear a
 try clear w
 rintro p a w ⟨a3, a4, S, E, a7, a8, a9⟩
 replace h1 := h1.le a4
 replace a2 := a2.le a4
 refine QF ?_
 refine QB (ZK E S Y a2 Y (by assumption) (by assumption) ?_ ?_)
 ·clear E a S; rintro a E hpm_6 S
  refine Qj E Y Y ?_
  clear E a; intro a E
  refine ZB ?_
  refine QL E Y Y ?_
  refine Yu (qk (qk (B_x (yu ?_))))
  replace S := S.drop
  exact Ui E Tryz.results208 ⟨_, Y, a3, _, a4, ⟨_, Y, Y, (by assumption), (by (intro z; exact (List.Perm.mem_iff (by first | assumption | (exact List.Perm.symm (by assumption)))).trans (shq0 z)))⟩, S⟩
 ·clear E a S w; rintro a w a0 E hk_8 hk_8n hk_8l S
  refine Qj E Y Y ?_
  clear E a; intro a E
  refine ZB ?_
  refine Jj E Y Y ?_
  refine Ja (JG (Jw (QF (Zy (k := a0) (v := .agg #[]) E (by have S1 := S; simp only [Sl.encS, List.map_append, List.map_cons, List.map_nil] at S1; exact S1) a2 Y fun _ B => Qj B Y Y fun _ D => Qx D Y fun _ F => QZ (JR 2 F Y ?_)))))
  clear E a B D F; intro a E
  replace S := S.front1
  refine QB (QI (p := [J1 p]) E S Y Y Y (h1.2 p a0 (by first | omega | (simp; done))) lerf ?_)
  clear E a S; rintro a _ w a5 _ a6 ⟨rfl, rfl⟩ S E
  replace S : St w a5 (J1 (p ++ [a0]) :: Ys sm0 es_2 ck_3 a1 (Sl.encS (p ++ [a0])) :: H) := S
  refine Jx ?_
  refine QL E Y Y ?_
  refine Ja (ZN (JG ?_))
  replace S := S.front1.front1
  replace S := S.reSt (C := J1) (s' := (p ++ [a0])) (by first | rfl | (simp; done))
  replace S := S.front1
  replace S := S.reIt (p' := (Sl.encS (p ++ [a0]))) (congrArg Sl.encS (show p ++ [a0] = (p ++ [a0]) by first | rfl | (simp; done)))
  exact ⟨(p ++ [a0]), ⟨a5, (a4.trans a6), S, E.keep ⟨Y, Y, trivial⟩, (by exact Yn (by assumption) (by assumption)), (by exact Yt (by assumption) (by assumption)), (by simp; omega)⟩, (by simp; omega)⟩
theorem S_Each {M : Hp} {p0 : Nat} {v0 : Value} {c0 : List Int} (h0 : JH 145 M v0 c0) {v1 : Value} {J1 : List Int → Qm} (h1 : zf Tryz.prog v1 M J1) (b0 : c0.length ≤ 1000000000)  :
  Sp Tryz.prog (.func (.func 169) #[] #[]) M [.pointer (some ⟨p0, 0, none⟩), v1] [Qh p0 (.cells #[.int .i32 0, .int .u32 0, .int .u32 0, .int .u32 0, .int .i32 0, .int .i32 0, v0] 144), J1 ([] : List Int)] (fun r M' C' => ∃ p_, C' = [Qh p0 (.cells #[.int .i32 0, .int .u32 0, .int .u32 0, .int .u32 0, .int .i32 0, .int .i32 0, v0] 144), J1 p_] ∧ r = .tuple #[] ∧ (p_.Nodup) ∧ (∀ z, z ∈ p_ ↔ z ∈ c0)) := by
 refine Qu Tryz.func169 Y Tryz.ntmps169 Y Tryz.call169 ?_
 intro a w M1 H hM1 S E
 replace S : St w M1 (Qh p0 (.cells #[.int .i32 0, .int .u32 0, .int .u32 0, .int .u32 0, .int .i32 0, .int .i32 0, v0] 144) :: J1 ([] : List Int) :: _) := S
 replace h0 := h0.le hM1
 replace h1 := h1.le hM1
 have hset := h0
 obtain ⟨sb0, sm0, sq0, se0, shb0, shm0, shn0, shq0⟩ := hset
 have shq0l : sq0.length ≤ c0.length := Qn shn0 fun z hz => (shq0 z).1 hz
 refine QF (Qq E Y fun _ B => QS B (Qb B Y Y) fun _ D => Qa D Y (Qs _) ?_)
 clear E a B D; intro a E
 replace S : St w M1 (LK p0 144 0 v0 :: _) := S
 refine QB (QI (p := [LK p0 144 0 v0]) E S Y Y Y (QX Tryz.rwRLib (T := 144) (n := 0) (by decide) (by decide)) lerf ?_)
 clear E a S; rintro a _ w a2 _ a3 ⟨rfl, rfl⟩ S E
 replace S : St w a2 (Qh p0 (.cells #[.int .i32 0, .int .u32 0, .int .u32 0, .int .u32 0, .int .i32 1, .int .i32 0, v0] 144) :: J1 ([] : List Int) :: H) := S
 replace h1 := h1.le a3
 replace shb0 := a3.2 _ _ shb0
 replace shm0 := shm0.le a3
 refine QZ (Qq E Y fun _ B => QS B (Qb B Y Y) fun _ D => Qa D Y (Qs _) ?_)
 clear E a B D; intro a E
 refine Vg E Y Y ?_
 clear E a; intro a E
 replace E : Env a 26 [⟨.fn (.func 186) #[], #[.pointer (some ⟨p0, 0, none⟩)]⟩] _ := E
 refine QZ (Qq E Y fun _ B => QS B (Qb B Y Y) fun _ D => Qa D Y (QW _) fun _ F => JD F Y (Tryz.isAgg116 _) (QC (S.mem (.head _)) Y) fun _ G => QS G (Qb G Y se0) fun _ I => zw I Y (QG I (congrArg some se0) Tryz.isAgg145 S.imm (Jn shb0)) Y ?_)
 clear E a B D F G I; intro a E
 refine QB (Zz E S Y JJ shm0 Y ?_)
 clear E a S; rintro a w a4 es_3 ck_4 E a5 S
 replace S : St w a2 (Ys sm0 es_3 ck_4 a4 (Sl.encS ([] : List Int)) :: _) := S
 refine VJ ?_
 replace S := S.front2.front1.front1
 replace S := S.reSt (C := J1) (s' := []) (by first | rfl | (simp; done))
 replace S := S.front1
 replace S := S.reIt (p' := (Sl.encS [])) (congrArg Sl.encS (show ([] : List Int) = [] by first | rfl | (simp; done)))
 refine Jb (γ := List Int) (fun (p : List Int) a w => ∃ (a1 : Hp), Hp.le a2 a1 ∧ St w a1 (Ys sm0 es_3 ck_4 a4 (Sl.encS p) :: J1 p :: Qh p0 (.cells #[.int .i32 0, .int .u32 0, .int .u32 0, .int .u32 0, .int .i32 1, .int .i32 0, v0] 144) :: H) ∧ Env a 26 [⟨.fn (.func 186) #[], #[.pointer (some ⟨p0, 0, none⟩)]⟩] [(1, v1), (18, .pointer (some ⟨a4, 0, none⟩))] ∧ (p.Nodup) ∧ (∀ z ∈ p, z ∈ sq0) ∧ (p.length ≤ sq0.length)) (fun p => sq0.length - p.length) [] ⟨a2, lerf, S, E.keep ⟨Y, Y, trivial⟩, (by simp), (by simp), (by simp)⟩ ?_
 try clear E
 try clear S
 try clear a
 try clear w
 rintro p a w ⟨a1, a6, S, E, a9, b1, b2⟩
 replace h1 := h1.le a6
 replace a5 := a5.le a6
 refine QF ?_
 refine QB (ZK E S Y a5 Y (by assumption) (by assumption) ?_ ?_)
 ·clear E a S; rintro a E hpm_7 S
  refine Qj E Y Y ?_
  clear E a; intro a E
  refine ZB ?_
  refine QL E Y Y ?_
  refine Yu (qk (qk (B_x (yu ?_))))
  replace S := S.drop.front1
  refine F_retL0 E Tryz.results169 (fun hres => ?_)
  clear E
  replace S : St w a1 (LK p0 144 (0 + 1) v0 :: _) := S
  refine YY Tryz.rwRLib (n := 0) (by decide) (by decide) S (fun w S => ?_)
  replace S : St w a1 (Qh p0 (.cells #[.int .i32 0, .int .u32 0, .int .u32 0, .int .u32 0, .int .i32 0, .int .i32 0, v0] 144) :: J1 p :: H) := S
  replace S := S.front1.front1
  exact GF (hres _) ⟨_, Y, a1, _, (a3.trans a6), ⟨_, Y, Y, (by assumption), (by (intro z; exact (List.Perm.mem_iff (by first | assumption | (exact List.Perm.symm (by assumption)))).trans (shq0 z)))⟩, S⟩
 ·clear E a S w; rintro a w a0 E hk_9 hk_9n hk_9l S
  refine Qj E Y Y ?_
  clear E a; intro a E
  refine ZB ?_
  refine Jj E Y Y ?_
  refine Ja (JG (Jw (QF (Zy (k := a0) (v := .agg #[]) E (by have S1 := S; simp only [Sl.encS, List.map_append, List.map_cons, List.map_nil] at S1; exact S1) a5 Y fun _ B => Qj B Y Y fun _ D => Qx D Y fun _ F => QZ (JR 2 F Y ?_)))))
  clear E a B D F; intro a E
  replace S := S.front1
  refine QB (QI (p := [J1 p]) E S Y Y Y (h1.2 p a0 (by first | omega | (simp; done))) lerf ?_)
  clear E a S; rintro a _ w a7 _ a8 ⟨rfl, rfl⟩ S E
  replace S : St w a7 (J1 (p ++ [a0]) :: Ys sm0 es_3 ck_4 a4 (Sl.encS (p ++ [a0])) :: Qh p0 (.cells #[.int .i32 0, .int .u32 0, .int .u32 0, .int .u32 0, .int .i32 1, .int .i32 0, v0] 144) :: H) := S
  refine Jx ?_
  refine QL E Y Y ?_
  refine Ja (ZN (JG ?_))
  replace S := S.front2.front1.front2.front1
  replace S := S.reSt (C := J1) (s' := (p ++ [a0])) (by first | rfl | (simp; done))
  replace S := S.front1
  replace S := S.reIt (p' := (Sl.encS (p ++ [a0]))) (congrArg Sl.encS (show p ++ [a0] = (p ++ [a0]) by first | rfl | (simp; done)))
  exact ⟨(p ++ [a0]), ⟨a7, (a6.trans a8), S, E.keep ⟨Y, Y, trivial⟩, (by exact Yn (by assumption) (by assumption)), (by exact Yt (by assumption) (by assumption)), (by simp; omega)⟩, (by simp; omega)⟩
theorem reg_Each {M : Hp} {x0 : Bool} {v : Value} {t : List RG} {i : Nat} {x : RG} {fv : Value} {J : List Int → Qm} (hx : t[i]? = some x) (h1 : zf Tryz.prog fv M J) (hb : x.2.2.length ≤ 1000000000) :
  QD Tryz.prog (Zx KS x0 x) "Each" M [fv] [QK KS x0 v t, J []] (fun r _ C' => ∃ D, C' = QK KS x0 v t :: D ∧ ∃ p, D = [J p] ∧ r = .tuple #[] ∧ p.Nodup ∧ ∀ z, z ∈ p ↔ z ∈ x.2.2) := by
 refine qv (F := [J []]) hx fun M' hM hr => ?_
 cases x0
 ·refine (QD.of_sp (fun w => zq _ w) Tryz.call208 (U_Each hr (h1.le hM) hb)).conv (p' := [Zc KS false x, J []]) (fun w M H s => s.drop) fun r M2 C ⟨p, h1, h2⟩ => ⟨[Zc KS false x, J p], ⟨[J p], Y, p, Y, h2⟩, fun w M H s => UZ (by subst h1; exact s)⟩
 ·exact (QD.of_sp (fun w => zt _ w) Tryz.call169 (S_Each hr (h1.le hM) hb)).mono fun r M2 C ⟨p, h1, h2⟩ => ⟨[J p], h1, p, Y, h2⟩
theorem vJ {M : Hp} {x0 : Int} {b9 : Nat} {u9 : Value} {l9 : List Int} (hb9 : l9.length ≤ 1000000000) :
  Sp Tryz.prog (.func (.func 61) #[] #[.pointer (some ⟨b9, 0, none⟩)]) M [.int .i64 x0] [Qh b9 (.cells #[.bool false, .int .i64 0, u9] 42), Zi 3 u9 l9] (fun r M' C' => ∃ u_, C' = [Qh b9 (.cells #[.bool false, .int .i64 0, u_] 42), Zi 3 u_ (l9 ++ [x0])] ∧ r = .bool false) := by
 refine Qu Tryz.func61 Y Tryz.ntmps61 Y Tryz.call61 ?_
 intro a w M1 H hM1 S E
 replace S : St w M1 (Qh b9 (.cells #[.bool false, .int .i64 0, u9] 42) :: Zi 3 u9 l9 :: _) := S
 refine QF (Qx E Y fun _ B => QZ (Qa B Y (UR _) fun _ C => JD C Y (Tryz.isAgg22 _) (QC (S.mem (.head _)) Y) fun _ D => Qq D Y ?_))
 clear E a B C D; intro a E
 refine QB (Jf (ys := [x0]) E S Y JE Y Y Y ?_)
 clear E a S; rintro a w a1 E S
 replace S := S.front2.front1
 refine QB (JS (xs := l9) (ys := [x0]) E S Y Y Y JE (by first | omega | (simp; done) | (simp; omega) | (simp_all; omega)) ?_)
 clear E a S; rintro a w a0 E S
 refine Qa E Y (UR _) ?_
 clear E a; intro a E
 have ho_3 := S.oneI
 replace S := S.front1
 refine Jq (JW (f := 2) E S Y Y (Tryz.sizeOf22 _) ho_3 Y ?_)
 clear E a S; rintro a w E S
 replace S : St w M1 (Qh b9 (.cells #[.bool false, .int .i64 0, a0] 42) :: _) := S
 refine QZ (Qx E Y ?_)
 clear E a; intro a E
 refine JQ ?_
 replace S := S.front1.front1
 exact Qk E Tryz.results61 Y ⟨_, Y, M1, _, lerf, ⟨_, Y, Y⟩, S⟩
theorem vA {b : Nat} : zf Tryz.prog (.func (.func 61) #[] #[.pointer (some ⟨b, 0, none⟩)]) M (JA b 42 3) := by
 refine ⟨Y, fun p x hp w M1 H hM S => ?_⟩
 obtain ⟨v, S1⟩ := openJA S
 exact (vJ (M := M) hp w M1 H hM S1).mono fun r w' ⟨M2, C, h1, ⟨u, h2, h3⟩, h4⟩ => ⟨M2, _, h1, ⟨h3, Y⟩, by subst h2; exact mkJA h4⟩
theorem yK {M : Hp} {v0 : Value} {l0 : List Int} (h0 : Zh M v0 l0)(hb : l0.length ≤ 1000000000000) :
  Sp Tryz.prog (.func (.func 87) #[] #[]) M [v0] [] (fun r M' C' => C' = [Zi 3 r l0]) := by
 refine Qu Tryz.func87 Y Tryz.ntmps87 Y Tryz.call87 ?_
 intro a w M1 H hM1 S E
 replace h0 := h0.le hM1
 have b0 := h0.bound
 refine QF (Qx E Y ?_)
 clear E a; intro a E
 refine QZ ?_
 refine QB (Jf (ys := []) E S Y JE Y Y Y ?_)
 clear E a S; rintro a w a0 E S
 refine Qq E Y ?_
 clear E a; intro a E
 refine QB (Jp (xs := ([] : List Int)) E S Y Y Y JE h0 (by (simp; omega)) ?_)
 clear E a S; rintro a w a1 E S
 refine Qx E Y ?_
 clear E a; intro a E
 refine JQ ?_
 replace S := S.re1 (l' := l0) (by (rfl))
 exact Qk E Tryz.results87 Y ⟨_, Y, M1, _, lerf, Y, S⟩
theorem sort_Ints {M : Hp} {v0 : Value} {l0 : List Int} (b0 : l0.length ≤ 1000000000000) :
  Sp Tryz.prog (.func (.func 88) #[] #[]) M [v0] [Zi 3 v0 l0] (fun r M' C' => C' = [Zi 3 v0 (Vm l0)]) := by
 refine Qu Tryz.func88 Y Tryz.ntmps88 Y Tryz.call88 ?_
 intro a w M1 H hM1 S E
 replace S : St w M1 (Zi 3 v0 l0 :: _) := S
 refine Qr (Qq E Y ?_)
 clear E a; intro a E
 refine QB (QI (p := [Zi 3 v0 l0]) E S Y Y Y (GJ (by (omega))) lerf ?_)
 clear E a S; rintro a a2 w a0 _ a1 rfl S E
 replace S : St w a0 (Zi 3 v0 (Vm l0) :: _) := S
 refine J_Ab ?_
 exact Ui E Tryz.results88 ⟨_, Y, a0, _, a1, Y, S⟩
theorem GM {M : Hp} {v0 : Value} {l0 : List Int} (h0 : Zh M v0 l0) (hb : l0.length ≤ 1000000000000) :
  Pu Tryz.prog (.func (.func 62) #[] #[]) M [v0] (fun r M' => Zh M' r (Vm l0)) := by
 refine Jt Tryz.func62 Y Tryz.ntmps62 Y Tryz.call62 ?_
 intro a w M1 H hM1 S E
 replace h0 := h0.le hM1
 have b0 := h0.bound
 refine QF (Qx E Y fun _ B => QZ (Qq B Y ?_))
 clear E a B; intro a E
 refine QB (QI (p := []) E S Y Y Y (yK h0 (by first | exact ml_len htm hbl (by assumption) | (first | omega | (simp; omega) | (simp; done) | (simp_all; omega) | grind))) lerf ?_)
 clear E a S; rintro a a0 w a1 _ a2 rfl S E
 replace S : St w a1 (Zi 3 a0 l0 :: _) := S
 refine Qx E Y fun _ B => QZ (Qq B Y ?_)
 clear E a B; intro a E
 refine QB (QI (p := [Zi 3 a0 l0]) E S Y Y Y (sort_Ints (by (first | omega | (simp; omega) | (simp; done) | (simp_all; omega) | grind))) lerf ?_)
 clear E a S; rintro a a8 w a3 _ a4 rfl S E
 replace S : St w a3 (Zi 3 a0 (Vm l0) :: _) := S
 refine QZ (JR 2 E Y ?_)
 clear E a; intro a E
 refine JQ ?_
 have S0 := S; clear S
 obtain ⟨a5, a6, a7, S⟩ := S0.freezeI (by (first | (rw [Ye]; simp; omega) | omega | (simp; omega)))
 clear S0
 exact Qk E Tryz.results62 Y ⟨_, Y, a5, (a2.trans (a4.trans a6)), a7, S⟩
theorem O_Pop {M : Hp} {b9 m9 : Nat} {l9 : List Int} (hn9 : l9.Nodup)  :
  Sp Tryz.prog (.func (.func 198) #[] #[]) M [.pointer (some ⟨b9, 0, none⟩)] [Qh b9 (.cells #[.map (some m9)] 145), Qv m9 l9] (fun r M' C' => ∃ l_ k_ b_, C' = [Qh b9 (.cells #[.map (some m9)] 145), Qv m9 l_] ∧ r = .tuple #[.int .i64 k_, .bool b_] ∧ (l_.Nodup) ∧ (∀ z, z ∈ l_ ↔ z ∈ l9 ∧ ¬ (b_ = true ∧ z = k_)) ∧ (if b_ = true then k_ ∈ l9 else (k_ = 0 ∧ l9 = []))) := by
 refine Qu Tryz.func198 Y Tryz.ntmps198 Y Tryz.call198 ?_
 intro a w M1 H hM1 S E
 replace S : St w M1 (Qh b9 (.cells #[.map (some m9)] 145) :: Qv m9 l9 :: _) := S
 refine QF (JR 2 E Y fun _ B => VM (Qq B Y fun _ C => QS C (Qb C Y Y) fun _ D => JD D Y (Tryz.isAgg145 _) (JV (S.mem (.head _))) ?_))
 clear E a B C D; intro a E
 replace S := S.front1
 refine QB (Gd E S Y JJ Y ?_)
 clear E a S; rintro a w a2 E S
 replace S : St w M1 (qn m9 a2 (Sl.encS l9) ([] : List Int) none :: _) := S
 refine VJ ?_
 replace S := S.reW (L' := (Sl.encS (l9.filter (fun z => decide (z ∉ []))))) (D' := []) (congrArg Sl.encS (show l9 = l9.filter (fun z => decide (z ∉ [])) by first | rfl | exact (YU _).symm)) (show ([] : List Int) = [] by first | rfl | (simp; done))
 refine Jb (γ := List Int) (fun (p : List Int) a w => ∃ (a0 : Hp), Hp.le M1 a0 ∧ St w a0 (qn m9 a2 (Sl.encS (l9.filter (fun z => decide (z ∉ p)))) p none :: Qh b9 (.cells #[.map (some m9)] 145) :: H) ∧ Env a 19 [] [(0, .pointer (some ⟨b9, 0, none⟩)), (2, .int .i64 0), (8, .pointer (some ⟨a2, 0, none⟩))] ∧ (p = [])) (fun p => l9.length - p.length) [] ⟨M1, lerf, S, E.keep ⟨Y, UF (i := 0) Y (by ((try clear S); (try clear E); first | assumption | omega | rfl | (simp; done) | (simp_all; done) | (simp [List.take_add_one, *]; done) | grind [List.take_add_one])), Y, trivial⟩, (by rfl)⟩ ?_
 try clear E
 try clear S
 try clear a
 try clear w
 rintro p a w ⟨a0, a3, S, E, a1⟩
 refine QF ?_
 refine QB (Ge E S Y Y ?_ ?_)
 ·clear E a S; rintro a E hpm_3 S
  refine Qj E Y Y ?_
  clear E a; intro a E
  refine ZB ?_
  refine QL E Y Y ?_
  refine Um (JR 3 E Y ?_)
  clear E a; intro a E
  refine JQ ?_
  replace S := S.front1
  exact Uh E Tryz.results198 Y Y ⟨_, Y, a0, _, a3, ⟨_, _, _, Y, Y, (by (exact hn9.filter _)), (by (intro z; subst a1; simp)), (by (subst a1; simp_all [List.eq_nil_iff_forall_not_mem]))⟩, S⟩
 ·clear E a S w; rintro a w a4 E hk_5 hk_5n S
  refine Qj E Y Y ?_
  clear E a; intro a E
  refine ZB ?_
  refine Jj E Y Y ?_
  refine Ja (JG (Jw (QF (Gb E S Y fun _ B => Qj B Y Y fun _ C => Qx C Y fun _ D => QZ (Qq D Y fun _ F => QS F (Qb F Y Y) fun _ G => JD G Y (Tryz.isAgg145 _) (JV (S.mem (.tail _ (.head _)))) fun _ I => Qq I Y ?_)))))
  clear E a B C D F G I; intro a E
  refine Jq (VK E S JJ Y Y ?_)
  clear E a S; rintro a w E S
  refine QZ (JR 3 E Y ?_)
  clear E a; intro a E
  refine J_r (jd (qW ?_))
  replace S := S.endW.front1
  exact Uh E Tryz.results198 Y Y ⟨_, Y, a0, _, a3, ⟨_, _, _, Y, Y, (by (exact (hn9.filter _).filter _)), (by (intro z; subst a1; simp)), (by (subst a1; simp_all))⟩, S⟩
theorem OS_Pop {M : Hp} {p9 b9 m9 : Nat} {l9 : List Int} (hn9 : l9.Nodup)  :
  Sp Tryz.prog (.func (.func 177) #[] #[]) M [.pointer (some ⟨p9, 0, none⟩)] [Qh p9 (.cells #[.int .i32 0, .int .u32 0, .int .u32 0, .int .u32 0, .int .i32 0, .int .i32 0, .pointer (some ⟨b9, 0, none⟩)] 144), Qh b9 (.cells #[.map (some m9)] 145), Qv m9 l9] (fun r M' C' => ∃ l_ k_ b_, C' = [Qh p9 (.cells #[.int .i32 0, .int .u32 0, .int .u32 0, .int .u32 0, .int .i32 0, .int .i32 0, .pointer (some ⟨b9, 0, none⟩)] 144), Qh b9 (.cells #[.map (some m9)] 145), Qv m9 l_] ∧ r = .tuple #[.int .i64 k_, .bool b_] ∧ (l_.Nodup) ∧ (∀ z, z ∈ l_ ↔ z ∈ l9 ∧ ¬ (b_ = true ∧ z = k_)) ∧ (if b_ = true then k_ ∈ l9 else (k_ = 0 ∧ l9 = []))) := by
 refine Qu Tryz.func177 Y Tryz.ntmps177 Y Tryz.call177 ?_
 intro a w M1 H hM1 S E
 replace S : St w M1 (Qh p9 (.cells #[.int .i32 0, .int .u32 0, .int .u32 0, .int .u32 0, .int .i32 0, .int .i32 0, .pointer (some ⟨b9, 0, none⟩)] 144) :: Qh b9 (.cells #[.map (some m9)] 145) :: Qv m9 l9 :: _) := S
 refine QF (JR 2 E Y fun _ B => QZ (Qq B Y fun _ C => QS C (Qb C Y Y) fun _ D => Qa D Y (Qs _) ?_))
 clear E a B C D; intro a E
 replace S : St w M1 (LK p9 144 0 (.pointer (some ⟨b9, 0, none⟩)) :: _) := S
 refine QB (QI (p := [LK p9 144 0 (.pointer (some ⟨b9, 0, none⟩))]) E S Y Y Y (Vc Tryz.rwWLib (T := 144)) lerf ?_)
 clear E a S; rintro a _ w a1 _ a2 ⟨rfl, rfl⟩ S E
 replace S : St w a1 (Qh p9 (.cells #[.int .i32 1, .int .u32 0, .int .u32 0, .int .u32 0, .int .i32 (-1073741824), .int .i32 0, .pointer (some ⟨b9, 0, none⟩)] 144) :: Qh b9 (.cells #[.map (some m9)] 145) :: Qv m9 l9 :: H) := S
 refine QZ (Qq E Y fun _ B => QS B (Qb B Y Y) fun _ C => Qa C Y (Qs _) ?_)
 clear E a B C; intro a E
 refine Vg E Y Y ?_
 clear E a; intro a E
 replace E : Env a 18 [⟨.fn (.func 107) #[], #[.pointer (some ⟨p9, 0, none⟩)]⟩] _ := E
 refine QZ (Qq E Y fun _ B => QS B (Qb B Y Y) fun _ C => Qa C Y (QW _) fun _ D => JD D Y (Tryz.isAgg116 _) (QC (S.mem (.head _)) Y) ?_)
 clear E a B C D; intro a E
 replace S := S.front2.front2
 refine QB (QI (p := [Qh b9 (.cells #[.map (some m9)] 145), Qv m9 l9]) E S Y Y Y (O_Pop (by first | assumption | exact List.nodup_nil | exact Qt _ _ (by assumption) | exact Qt _ _ List.nodup_nil)) lerf ?_)
 clear E a S; rintro a _ w a0 _ a3 ⟨l_3, a4, a5, rfl, rfl, a6, a7, a8⟩ S E
 replace S : St w a0 (Qh b9 (.cells #[.map (some m9)] 145) :: Qv m9 l_3 :: Qh p9 (.cells #[.int .i32 1, .int .u32 0, .int .u32 0, .int .u32 0, .int .i32 (-1073741824), .int .i32 0, .pointer (some ⟨b9, 0, none⟩)] 144) :: H) := S
 refine Qj E Y Y fun _ B => Qj B Y Y fun _ C => JR 2 C Y ?_
 clear E a B C; intro a E
 refine JQ ?_
 replace S := S.front1.front1.front2
 refine vy E Tryz.results177 Y Y (fun hres => ?_)
 clear E
 replace S : St w a0 (yt p9 144 (.pointer (some ⟨b9, 0, none⟩)) :: _) := S
 refine zc Tryz.rwWLib S (fun w S => ?_)
 replace S : St w a0 (Qh p9 (.cells #[.int .i32 0, .int .u32 0, .int .u32 0, .int .u32 0, .int .i32 0, .int .i32 0, .pointer (some ⟨b9, 0, none⟩)] 144) :: Qh b9 (.cells #[.map (some m9)] 145) :: Qv m9 l_3 :: H) := S
 replace S := S.front2.front2.front2
 exact GF (hres _) ⟨_, Y, a0, _, (a2.trans a3), ⟨_, _, _, Y, Y, (by assumption), (by assumption), (by assumption)⟩, S⟩
theorem reg_Pop {M : Hp} {x0 : Bool} {v : Value} {t : List RG} {i : Nat} {x : RG} (hx : t[i]? = some x) :
  QD Tryz.prog (Zx KS x0 x) "Pop" M [] [QK KS x0 v t] (fun r _ C' => ∃ L D, C' = QK KS x0 v (t.set i (x.w L)) :: D ∧ (∃ k b, r = .tuple #[.int .i64 k, .bool b] ∧ L = Ji x.2.2 (if b = true then [k] else []) ∧ (if b = true then k ∈ x.2.2 else (k = 0 ∧ ∀ z, z ∉ x.2.2)) ∧ D = [])) := by
 refine YT (Φ := fun r l' D => ∃ k b, r = .tuple #[.int .i64 k, .bool b] ∧ (∀ z, z ∈ l' ↔ z ∈ x.2.2 ∧ ¬ (b = true ∧ z = k)) ∧ (if b = true then k ∈ x.2.2 else (k = 0 ∧ ∀ z, z ∉ x.2.2)) ∧ D = []) (YS hx ?_) fun r l' D ⟨k, b, h1, h2, h3, h4⟩ => ⟨Ji x.2.2 (if b = true then [k] else []), fun z => (h2 z).trans (by rw [Zm]; cases b <;> simp), k, b, h1, Y, h3, h4⟩
 cases x0
 ·exact WO (fun p w => jm p w) Tryz.call198 fun b m q hn hq => JT (O_Pop hn) fun r M2 C ⟨l', k, b, h1, h2, h3, h4, h5⟩ => ⟨l', [], h1, h3, k, b, h2, fun z => (h4 z).trans (by rw [hq]), pop_eq hq h5, Y⟩
 ·exact yG (fun p w => jn p w) Tryz.call177 fun b m q hn hq => JT (OS_Pop hn) fun r M2 C ⟨l', k, b, h1, h2, h3, h4, h5⟩ => ⟨l', [], h1, h3, k, b, h2, fun z => (h4 z).trans (by rw [hq]), pop_eq hq h5, Y⟩
theorem zA {M : Hp} {b9 m9 : Nat} {l9 : List Int}  :
  Sp Tryz.prog (.func (.func 205) #[] #[]) M [.pointer (some ⟨b9, 0, none⟩)] [Qh b9 (.cells #[.map (some m9)] 145), Qv m9 l9] (fun r M' C' => C' = [Qh b9 (.cells #[.map (some m9)] 145), Qv m9 l9] ∧ r = .int .i64 ((l9.length : Nat) : Int)) := by
 refine Qu Tryz.func205 Y Tryz.ntmps205 Y Tryz.call205 ?_
 intro a w M1 H hM1 S E
 replace S : St w M1 (Qh b9 (.cells #[.map (some m9)] 145) :: Qv m9 l9 :: _) := S
 refine QF (Qx E Y fun _ B => QZ (Qq B Y fun _ C => QS C (Qb C Y Y) fun _ D => JD D Y (Tryz.isAgg145 _) (JV (S.mem (.head _))) ?_))
 clear E a B C D; intro a E
 replace S := S.front1
 refine QS E ((UL E S JJ Y).trans (by rw [Yg])) fun _ B => Qx B Y ?_
 clear E a B; intro a E
 refine JQ ?_
 replace S := S.front1
 exact Qk E Tryz.results205 Y ⟨_, Y, M1, _, lerf, ⟨Y, Y⟩, S⟩
theorem O_PopN {M : Hp} {b9 m9 : Nat} {l9 : List Int} {x1 : Int} (hn9 : l9.Nodup) (hb : l9.length ≤ 1000000000) :
  Sp Tryz.prog (.func (.func 199) #[] #[]) M [.pointer (some ⟨b9, 0, none⟩), .int .i64 x1] [Qh b9 (.cells #[.map (some m9)] 145), Qv m9 l9] (fun r M' C' => ∃ l_ v_ p_, C' = [Qh b9 (.cells #[.map (some m9)] 145), Qv m9 l_, Zi 3 v_ p_] ∧ r = .tuple #[v_, .int .i64 ((p_.length : Nat) : Int)] ∧ (l_.Nodup) ∧ (p_.Nodup) ∧ (∀ z ∈ p_, z ∈ l9) ∧ (p_.length = min x1.toNat l9.length) ∧ (∀ z, z ∈ l_ ↔ z ∈ l9 ∧ z ∉ p_)) := by
 refine Qu Tryz.func199 Y Tryz.ntmps199 Y Tryz.call199 ?_
 intro a w M1 H hM1 S E
 replace S : St w M1 (Qh b9 (.cells #[.map (some m9)] 145) :: Qv m9 l9 :: _) := S
 refine QF (JR 2 E Y fun _ B => VM (Qq B Y fun _ C => zV C Y Y fun _ D => Qq D Y ?_))
 clear E a B C D; intro a E
 refine QO (decide (x1 ≤ 0)) (fun a2 => ?_) (fun a2 => ?_)
 ·replace E := E.val (t := 9) Y a2
  replace E := E.val (t := 10) Y a2
  replace a2 := of_decide_eq_true a2
  refine Qd E Y Y Y Y fun _ B => Qd B Y Y Y Y fun _ C => Qd C Y Y Y Y fun _ D => Qd D Y Y Y Y fun _ F => Qd F Y Y Y Y fun _ G => JI G Y Y ?_
  clear E a B C D F G; intro a E
  refine Jx ?_
  refine Jj E Y Y ?_
  refine QF ?_
  refine QB (Wg (k := 0) E S Y Y Y JE Y (by omega) (by omega) (by omega) ?_)
  clear E a S; rintro a w b8 E S
  replace S := S.made0
  refine JR 2 E Y ?_
  clear E a; intro a E
  refine WF ?_
  replace S := S.front2.front2
  exact Uh E Tryz.results199 Y Y ⟨_, Y, M1, _, lerf, ⟨_, _, _, Y, Y, (by first | assumption | exact hn9.filter _), (by first | assumption | exact List.nodup_nil), (by first | assumption | (simp; done)), (by (first | (simp; omega) | exact Gq hn9 (by assumption) (by assumption) | (simp_all; omega) | (simp_all; done))), (by (intro z; simp))⟩, S⟩
 ·replace E := E.val (t := 9) Y a2
  replace E := E.val (t := 10) Y a2
  replace a2 := of_decide_eq_false a2
  refine Qc E Y Y (Qq E Y fun _ B => Qc B Y Y (QS B (Qb B Y Y) fun _ C => Qc C Y Y (JD C Y (Tryz.isAgg145 _) (JV (S.mem (.head _))) ?_)))
  clear E a B C; intro a E
  replace S := S.front1
  refine Qc E Y Y (QS E ((UL E S JJ Y).trans (by rw [Yg])) fun _ B => Qc B Y Y (Jh B Y Y fun _ C => QU C Y Y ?_))
  clear E a B C; intro a E
  refine Jx ?_
  refine QJ E Y (fun b1 => ?_) (fun b1 => ?_)
  ·refine QF ?_
   refine QB (Wg (k := 0) E S Y Y Y JE Y (by omega) (by omega) (by omega) ?_)
   clear E a S; rintro a w c0 E S
   replace S := S.made0
   refine JR 2 E Y ?_
   clear E a; intro a E
   refine WF ?_
   replace S := S.front1.front2
   exact Uh E Tryz.results199 Y Y ⟨_, Y, M1, _, lerf, ⟨_, _, _, Y, Y, (by first | assumption | exact hn9.filter _), (by first | assumption | exact List.nodup_nil), (by first | assumption | (simp; done)), (by (first | (simp; omega) | exact Gq hn9 (by assumption) (by assumption) | (simp_all; omega) | (simp_all; done))), (by (intro z; simp))⟩, S⟩
  ·refine J_l (Qq E Y ?_)
   clear E a; intro a E
   replace S := S.front1
   refine QB (QI (p := [Qh b9 (.cells #[.map (some m9)] 145), Qv m9 l9]) E S Y Y Y (zA ) lerf ?_)
   clear E a S; rintro a _ w a3 _ a6 ⟨rfl, rfl⟩ S E
   replace S : St w a3 (Qh b9 (.cells #[.map (some m9)] 145) :: Qv m9 l9 :: H) := S
   refine Qx E Y fun _ B => VM (JR 2 B Y fun _ C => Ws C Y Y ?_)
   clear E a B C; intro a E
   refine Jx ?_
   refine QJ E Y (fun b2 => ?_) (fun b2 => ?_)
   ·refine Qr (JR 2 E Y fun _ B => QZ (Qq B Y ?_))
    clear E a B; intro a E
    refine QB (Wg (k := l9.length) E S Y Y Y JE Y (by omega) (by omega) (by omega) ?_)
    clear E a S; rintro a w c1 E S
    replace S := S.made0
    refine Qx E Y fun _ B => VM (Qq B Y fun _ C => QS C (Qb C Y Y) fun _ D => JD D Y (Tryz.isAgg145 _) (JV (S.mem (.tail _ (.head _)))) ?_)
    clear E a B C D; intro a E
    replace S := S.front2
    refine QB (Gd E S Y JJ Y ?_)
    clear E a S; rintro a w a7 E S
    replace S : St w a3 (qn m9 a7 (Sl.encS l9) ([] : List Int) none :: _) := S
    refine VJ ?_
    replace S := S.front1.front1.front1
    replace S := S.re1 (l' := []) (by first | rfl | exact (YU _).symm | exact YK _ _ _)
    replace S := S.front1
    replace S := S.reW (L' := (Sl.encS (l9.filter (fun z => decide (z ∉ []))))) (D' := []) (congrArg Sl.encS (show l9 = l9.filter (fun z => decide (z ∉ [])) by first | rfl | exact (YU _).symm | exact YK _ _ _)) (show ([] : List Int) = [] by first | rfl | (simp; done))
    refine Jb (γ := List Int) (fun (p : List Int) a w => ∃ (a4 : Hp) (u4 : Value), Hp.le a3 a4 ∧ St w a4 (qn m9 a7 (Sl.encS (l9.filter (fun z => decide (z ∉ p)))) p none :: Zi 3 u4 p :: Qh b9 (.cells #[.map (some m9)] 145) :: H) ∧ Env a 49 [] [(0, .pointer (some ⟨b9, 0, none⟩)), (1, .int .i64 ((l9.length : Nat) : Int)), (4, u4), (5, .int .i64 ((p.length : Nat) : Int)), (29, .pointer (some ⟨a7, 0, none⟩))] ∧ (p.Nodup) ∧ (∀ z ∈ p, z ∈ l9) ∧ (p.length ≤ min x1.toNat l9.length)) (fun p => l9.length - p.length) [] ⟨a3, _, lerf, S, E.keep ⟨Y, Y, Y, UF (i := 0) Y (by (rfl)), Y, trivial⟩, (by simp), (by simp), (by simp)⟩ ?_
    try clear E
    try clear S
    try clear a
    try clear w
    rintro p a w ⟨a4, u4, a8, S, E, b3, b4, b5⟩
    have hpl := Qn (by assumption) (by assumption : ∀ z ∈ p, z ∈ l9)
    refine QF ?_
    refine QB (Ge E S Y Y ?_ ?_)
    ·clear E a S; rintro a E hpm_10 S
     refine Qj E Y Y ?_
     clear E a; intro a E
     refine ZB ?_
     refine QL E Y Y ?_
     refine Um (JR 4 E Y ?_)
     clear E a; intro a E
     refine JQ ?_
     replace S := S.front1.front1.front2
     exact Uh E Tryz.results199 Y Y ⟨_, Y, a4, _, (a6.trans a8), ⟨_, _, _, Y, Y, (by first | assumption | exact hn9.filter _), (by first | assumption | exact List.nodup_nil), (by first | assumption | (simp; done)), (by (first | (simp; omega) | exact Gq hn9 (by assumption) (by assumption) | (simp_all; omega) | (simp_all; done))), (by (intro z; simp))⟩, S⟩
    ·clear E a S w; rintro a w a0 E hk_12 hk_12n S
     refine Qj E Y Y ?_
     clear E a; intro a E
     refine ZB ?_
     refine Jj E Y Y ?_
     refine Ja (JG (Jw (QF (Gb E S Y fun _ B => Qj B Y Y fun _ C => Qx C Y fun _ D => VM (JR 2 D Y fun _ F => yi F Y Y ?_)))))
     clear E a B C D F; intro a E
     refine Jx ?_
     refine QJ E Y (fun b6 => ?_) (fun b6 => ?_)
     ·refine Yu (qk ?_)
      refine B_y Y ?_
      refine qk (B_x (JG (QF (JR 4 E Y ?_))))
      clear E a; intro a E
      refine JQ ?_
      replace S := S.endW.front1.front1.front2
      exact Uh E Tryz.results199 Y Y ⟨_, Y, a4, _, (a6.trans a8), ⟨_, _, _, Y, Y, (by first | assumption | exact hn9.filter _), (by first | assumption | exact List.nodup_nil), (by first | assumption | (simp; done)), (by (first | (simp; omega) | exact Gq hn9 (by assumption) (by assumption) | (simp_all; omega) | (simp_all; done))), (by (intro z; simp))⟩, S⟩
     ·refine J_l (Qq E Y fun _ B => QS B (Qb B Y Y) fun _ C => JD C Y (Tryz.isAgg145 _) (JV (S.mem (.tail _ (.tail _ (.head _))))) fun _ D => Qq D Y ?_)
      clear E a B C D; intro a E
      refine Jq (VK E S JJ Y Y ?_)
      clear E a S; rintro a w E S
      refine QZ (JR 2 E Y ?_)
      clear E a; intro a E
      refine QB (Jf (ys := [a0]) E S Y JE Y Y Y ?_)
      clear E a S; rintro a w c2 E S
      replace S := S.front2.front1
      refine QB (JS (xs := p) (ys := [a0]) E S Y Y Y JE (by (simp only [List.length_cons, List.length_nil]; omega)) ?_)
      clear E a S; rintro a w c3 E S
      refine Qx E Y fun _ B => qd (Qq B Y fun _ C => QY (m := ((p.length + 1 : Nat) : Int)) C Y Y fun _ D => Qx D Y ?_)
      clear E a B C D; intro a E
      refine QQ (ZN (JG ?_))
      replace S := S.front2.front1.front2.front1
      replace S := S.re1 (l' := (p ++ [a0])) (by first | rfl | exact (YU _).symm | exact YK _ _ _)
      replace S := S.front1
      replace S := S.reW (L' := (Sl.encS (l9.filter (fun z => decide (z ∉ (p ++ [a0])))))) (D' := (p ++ [a0])) (congrArg Sl.encS (show (l9.filter (fun z => decide (z ∉ p))).filter (fun q_ => decide (q_ ≠ a0)) = l9.filter (fun z => decide (z ∉ (p ++ [a0]))) by first | rfl | exact (YU _).symm | exact YK _ _ _)) (show p ++ [a0] = (p ++ [a0]) by first | rfl | (simp; done))
      exact ⟨(p ++ [a0]), ⟨a4, _, a8, S, E.keep ⟨Y, Y, Y, UF (i := p.length + 1) Y (by (simp)), Y, trivial⟩, (by exact qg (l := l9) (by assumption) (by assumption)), (by exact jh (by assumption) (by assumption)), (by have hlt := jS hn9 (by assumption) (by assumption) (by assumption); simp; omega)⟩, (by have hlt := jS hn9 (by assumption) (by assumption) (by assumption); simp; omega)⟩
   ·refine J_l (Qq E Y ?_)
    clear E a; intro a E
    refine QB (Wg (k := l9.length) E S Y Y Y JE Y (by omega) (by omega) (by omega) ?_)
    clear E a S; rintro a w c4 E S
    replace S := S.made0
    refine Qx E Y fun _ B => VM (Qq B Y fun _ C => QS C (Qb C Y Y) fun _ D => JD D Y (Tryz.isAgg145 _) (JV (S.mem (.tail _ (.head _)))) ?_)
    clear E a B C D; intro a E
    replace S := S.front2
    refine QB (Gd E S Y JJ Y ?_)
    clear E a S; rintro a w a9 E S
    replace S : St w a3 (qn m9 a9 (Sl.encS l9) ([] : List Int) none :: _) := S
    refine VJ ?_
    replace S := S.front1.front1.front1
    replace S := S.re1 (l' := []) (by first | rfl | exact (YU _).symm | exact YK _ _ _)
    replace S := S.front1
    replace S := S.reW (L' := (Sl.encS (l9.filter (fun z => decide (z ∉ []))))) (D' := []) (congrArg Sl.encS (show l9 = l9.filter (fun z => decide (z ∉ [])) by first | rfl | exact (YU _).symm | exact YK _ _ _)) (show ([] : List Int) = [] by first | rfl | (simp; done))
    refine Jb (γ := List Int) (fun (p : List Int) a w => ∃ (a5 : Hp) (u4 : Value), Hp.le a3 a5 ∧ St w a5 (qn m9 a9 (Sl.encS (l9.filter (fun z => decide (z ∉ p)))) p none :: Zi 3 u4 p :: Qh b9 (.cells #[.map (some m9)] 145) :: H) ∧ Env a 49 [] [(0, .pointer (some ⟨b9, 0, none⟩)), (1, .int .i64 x1), (4, u4), (5, .int .i64 ((p.length : Nat) : Int)), (29, .pointer (some ⟨a9, 0, none⟩))] ∧ (p.Nodup) ∧ (∀ z ∈ p, z ∈ l9) ∧ (p.length ≤ min x1.toNat l9.length)) (fun p => l9.length - p.length) [] ⟨a3, _, lerf, S, E.keep ⟨Y, Y, Y, UF (i := 0) Y (by (rfl)), Y, trivial⟩, (by simp), (by simp), (by simp)⟩ ?_
    try clear E
    try clear S
    try clear a
    try clear w
    rintro p a w ⟨a5, u4, b0, S, E, b3, b4, b5⟩
    have hpl := Qn (by assumption) (by assumption : ∀ z ∈ p, z ∈ l9)
    refine QF ?_
    refine QB (Ge E S Y Y ?_ ?_)
    ·clear E a S; rintro a E hpm_19 S
     refine Qj E Y Y ?_
     clear E a; intro a E
     refine ZB ?_
     refine QL E Y Y ?_
     refine Um (JR 4 E Y ?_)
     clear E a; intro a E
     refine JQ ?_
     replace S := S.front1.front1.front2
     exact Uh E Tryz.results199 Y Y ⟨_, Y, a5, _, (a6.trans b0), ⟨_, _, _, Y, Y, (by first | assumption | exact hn9.filter _), (by first | assumption | exact List.nodup_nil), (by first | assumption | (simp; done)), (by (first | (simp; omega) | exact Gq hn9 (by assumption) (by assumption) | (simp_all; omega) | (simp_all; done))), (by (intro z; simp))⟩, S⟩
    ·clear E a S w; rintro a w a1 E hk_21 hk_21n S
     refine Qj E Y Y ?_
     clear E a; intro a E
     refine ZB ?_
     refine Jj E Y Y ?_
     refine Ja (JG (Jw (QF (Gb E S Y fun _ B => Qj B Y Y fun _ C => Qx C Y fun _ D => VM (JR 2 D Y fun _ F => yi F Y Y ?_)))))
     clear E a B C D F; intro a E
     refine Jx ?_
     refine QJ E Y (fun b7 => ?_) (fun b7 => ?_)
     ·refine Yu (qk ?_)
      refine B_y Y ?_
      refine qk (B_x (JG (QF (JR 4 E Y ?_))))
      clear E a; intro a E
      refine JQ ?_
      replace S := S.endW.front1.front1.front2
      exact Uh E Tryz.results199 Y Y ⟨_, Y, a5, _, (a6.trans b0), ⟨_, _, _, Y, Y, (by first | assumption | exact hn9.filter _), (by first | assumption | exact List.nodup_nil), (by first | assumption | (simp; done)), (by (first | (simp; omega) | exact Gq hn9 (by assumption) (by assumption) | (simp_all; omega) | (simp_all; done))), (by (intro z; simp))⟩, S⟩
     ·refine J_l (Qq E Y fun _ B => QS B (Qb B Y Y) fun _ C => JD C Y (Tryz.isAgg145 _) (JV (S.mem (.tail _ (.tail _ (.head _))))) fun _ D => Qq D Y ?_)
      clear E a B C D; intro a E
      refine Jq (VK E S JJ Y Y ?_)
      clear E a S; rintro a w E S
      refine QZ (JR 2 E Y ?_)
      clear E a; intro a E
      refine QB (Jf (ys := [a1]) E S Y JE Y Y Y ?_)
      clear E a S; rintro a w c5 E S
      replace S := S.front2.front1
      refine QB (JS (xs := p) (ys := [a1]) E S Y Y Y JE (by (simp only [List.length_cons, List.length_nil]; omega)) ?_)
      clear E a S; rintro a w c6 E S
      refine Qx E Y fun _ B => qd (Qq B Y fun _ C => QY (m := ((p.length + 1 : Nat) : Int)) C Y Y fun _ D => Qx D Y ?_)
      clear E a B C D; intro a E
      refine QQ (ZN (JG ?_))
      replace S := S.front2.front1.front2.front1
      replace S := S.re1 (l' := (p ++ [a1])) (by first | rfl | exact (YU _).symm | exact YK _ _ _)
      replace S := S.front1
      replace S := S.reW (L' := (Sl.encS (l9.filter (fun z => decide (z ∉ (p ++ [a1])))))) (D' := (p ++ [a1])) (congrArg Sl.encS (show (l9.filter (fun z => decide (z ∉ p))).filter (fun q_ => decide (q_ ≠ a1)) = l9.filter (fun z => decide (z ∉ (p ++ [a1]))) by first | rfl | exact (YU _).symm | exact YK _ _ _)) (show p ++ [a1] = (p ++ [a1]) by first | rfl | (simp; done))
      exact ⟨(p ++ [a1]), ⟨a5, _, b0, S, E.keep ⟨Y, Y, Y, UF (i := p.length + 1) Y (by (simp)), Y, trivial⟩, (by exact qg (l := l9) (by assumption) (by assumption)), (by exact jh (by assumption) (by assumption)), (by have hlt := jS hn9 (by assumption) (by assumption) (by assumption); simp; omega)⟩, (by have hlt := jS hn9 (by assumption) (by assumption) (by assumption); simp; omega)⟩
theorem OS_PopN {M : Hp} {p9 b9 m9 : Nat} {l9 : List Int} {x1 : Int} (hn9 : l9.Nodup) (hb : l9.length ≤ 1000000000) :
  Sp Tryz.prog (.func (.func 178) #[] #[]) M [.pointer (some ⟨p9, 0, none⟩), .int .i64 x1] [Qh p9 (.cells #[.int .i32 0, .int .u32 0, .int .u32 0, .int .u32 0, .int .i32 0, .int .i32 0, .pointer (some ⟨b9, 0, none⟩)] 144), Qh b9 (.cells #[.map (some m9)] 145), Qv m9 l9] (fun r M' C' => ∃ l_ v_ p_, C' = [Qh p9 (.cells #[.int .i32 0, .int .u32 0, .int .u32 0, .int .u32 0, .int .i32 0, .int .i32 0, .pointer (some ⟨b9, 0, none⟩)] 144), Qh b9 (.cells #[.map (some m9)] 145), Qv m9 l_, Zi 3 v_ p_] ∧ r = .tuple #[v_, .int .i64 ((p_.length : Nat) : Int)] ∧ (l_.Nodup) ∧ (p_.Nodup) ∧ (∀ z ∈ p_, z ∈ l9) ∧ (p_.length = min x1.toNat l9.length) ∧ (∀ z, z ∈ l_ ↔ z ∈ l9 ∧ z ∉ p_)) := by
 refine Qu Tryz.func178 Y Tryz.ntmps178 Y Tryz.call178 ?_
 intro a w M1 H hM1 S E
 replace S : St w M1 (Qh p9 (.cells #[.int .i32 0, .int .u32 0, .int .u32 0, .int .u32 0, .int .i32 0, .int .i32 0, .pointer (some ⟨b9, 0, none⟩)] 144) :: Qh b9 (.cells #[.map (some m9)] 145) :: Qv m9 l9 :: _) := S
 refine QF (JR 2 E Y fun _ B => QZ (Qq B Y fun _ C => QS C (Qb C Y Y) fun _ D => Qa D Y (Qs _) ?_))
 clear E a B C D; intro a E
 replace S : St w M1 (LK p9 144 0 (.pointer (some ⟨b9, 0, none⟩)) :: _) := S
 refine QB (QI (p := [LK p9 144 0 (.pointer (some ⟨b9, 0, none⟩))]) E S Y Y Y (Vc Tryz.rwWLib (T := 144)) lerf ?_)
 clear E a S; rintro a _ w a3 _ a4 ⟨rfl, rfl⟩ S E
 replace S : St w a3 (Qh p9 (.cells #[.int .i32 1, .int .u32 0, .int .u32 0, .int .u32 0, .int .i32 (-1073741824), .int .i32 0, .pointer (some ⟨b9, 0, none⟩)] 144) :: Qh b9 (.cells #[.map (some m9)] 145) :: Qv m9 l9 :: H) := S
 refine QZ (Qq E Y fun _ B => QS B (Qb B Y Y) fun _ C => Qa C Y (Qs _) ?_)
 clear E a B C; intro a E
 refine Vg E Y Y ?_
 clear E a; intro a E
 replace E : Env a 21 [⟨.fn (.func 107) #[], #[.pointer (some ⟨p9, 0, none⟩)]⟩] _ := E
 refine QZ (Qq E Y fun _ B => QS B (Qb B Y Y) fun _ C => Qa C Y (QW _) fun _ D => JD D Y (Tryz.isAgg116 _) (QC (S.mem (.head _)) Y) fun _ F => Qq F Y ?_)
 clear E a B C D F; intro a E
 replace S := S.front2.front2
 refine QB (QI (p := [Qh b9 (.cells #[.map (some m9)] 145), Qv m9 l9]) E S Y Y Y (O_PopN (by first | assumption | exact List.nodup_nil | exact Qt _ _ (by assumption) | exact Qt _ _ List.nodup_nil) (by first | assumption | omega | (simp only [List.length_nil]; omega))) lerf ?_)
 clear E a S; rintro a _ w a0 _ a5 ⟨l_3, a1, a2, rfl, rfl, a6, a7, a8, a9, b0⟩ S E
 replace S : St w a0 (Qh b9 (.cells #[.map (some m9)] 145) :: Qv m9 l_3 :: Zi 3 a1 a2 :: Qh p9 (.cells #[.int .i32 1, .int .u32 0, .int .u32 0, .int .u32 0, .int .i32 (-1073741824), .int .i32 0, .pointer (some ⟨b9, 0, none⟩)] 144) :: H) := S
 refine Qj E Y Y fun _ B => Qj B Y Y fun _ C => JR 2 C Y ?_
 clear E a B C; intro a E
 refine JQ ?_
 replace S := S.front2.front2.front2.front3
 refine vy E Tryz.results178 Y Y (fun hres => ?_)
 clear E
 replace S : St w a0 (yt p9 144 (.pointer (some ⟨b9, 0, none⟩)) :: _) := S
 refine zc Tryz.rwWLib S (fun w S => ?_)
 replace S : St w a0 (Qh p9 (.cells #[.int .i32 0, .int .u32 0, .int .u32 0, .int .u32 0, .int .i32 0, .int .i32 0, .pointer (some ⟨b9, 0, none⟩)] 144) :: Qh b9 (.cells #[.map (some m9)] 145) :: Qv m9 l_3 :: Zi 3 a1 a2 :: H) := S
 replace S := S.front3.front3.front3.front3
 exact GF (hres _) ⟨_, Y, a0, _, (a4.trans a5), ⟨_, _, _, Y, Y, (by assumption), (by assumption), (by assumption), (by assumption), (by assumption)⟩, S⟩
theorem reg_PopN {M : Hp} {x0 : Bool} {v : Value} {t : List RG} {i : Nat} {x : RG} {n : Int} (hx : t[i]? = some x) (hb : x.2.2.length ≤ 1000000000) :
  QD Tryz.prog (Zx KS x0 x) "PopN" M [.int .i64 n] [QK KS x0 v t] (fun r _ C' => ∃ L D, C' = QK KS x0 v (t.set i (x.w L)) :: D ∧ (∃ u p, r = .tuple #[u, .int .i64 ((p.length : Nat) : Int)] ∧ L = Ji x.2.2 p ∧ p.Nodup ∧ (∀ z ∈ p, z ∈ x.2.2) ∧ p.length = min n.toNat (Jd x.2.2) ∧ D = [Zi 3 u p])) := by
 refine YT (Φ := fun r l' D => ∃ u p, r = .tuple #[u, .int .i64 ((p.length : Nat) : Int)] ∧ (∀ z, z ∈ l' ↔ z ∈ x.2.2 ∧ z ∉ p) ∧ p.Nodup ∧ (∀ z ∈ p, z ∈ x.2.2) ∧ p.length = min n.toNat (Jd x.2.2) ∧ D = [Zi 3 u p]) (YS hx ?_) fun r l' D ⟨u, p, h1, h2, h3⟩ => ⟨Ji x.2.2 p, fun z => (h2 z).trans Zm.symm, u, p, h1, Y, h3⟩
 cases x0
 ·exact WO (fun p w => zp p w) Tryz.call199 fun b m q hn hq => by have hql : q.length ≤ x.2.2.length := Qn hn fun z hz => (hq z).1 hz; exact JT (O_PopN hn (by omega)) fun r M2 C ⟨l', u, p, h1, h2, h3, h4, h5, h6, h7⟩ => ⟨l', [Zi 3 u p], h1, h3, u, p, h2, fun z => (h7 z).trans (by rw [hq]), h4, fun z hz => (hq z).1 (h5 z hz), by rw [h6, Wb hn hq], rfl⟩
 ·exact yG (fun p w => zr p w) Tryz.call178 fun b m q hn hq => by have hql : q.length ≤ x.2.2.length := Qn hn fun z hz => (hq z).1 hz; exact JT (OS_PopN hn (by omega)) fun r M2 C ⟨l', u, p, h1, h2, h3, h4, h5, h6, h7⟩ => ⟨l', [Zi 3 u p], h1, h3, u, p, h2, fun z => (h7 z).trans (by rw [hq]), h4, fun z hz => (hq z).1 (h5 z hz), by rw [h6, Wb hn hq], rfl⟩
theorem Vn {M : Hp} {n0 : Nat} (hb0 : n0 ≤ 1000000000000) :
  Sp Tryz.prog (.func (.func 109) #[] #[]) M [.int .i64 ((n0 : Nat) : Int)] [] (fun r M' C' => ∃ b_ m_, C' = [Qh b_ (.cells #[.map (some m_)] 145), Qv m_ ([] : List Int)] ∧ r = .iface 116 (.pointer (some ⟨b_, 0, none⟩))) := by
 refine Qu Tryz.func109 Y Tryz.ntmps109 Y Tryz.call109 ?_
 intro a w M1 H hM1 S E
 refine QF (Qx E Y fun _ B => QZ (Qq B Y ?_))
 clear E a B; intro a E
 refine QB (QI (p := []) E S Y Y Y (vr (by first | assumption | omega)) lerf ?_)
 clear E a S; rintro a _ w a0 _ a1 ⟨a2, mm_4, rfl, rfl⟩ S E
 replace S : St w a0 (Qh a2 (.cells #[.map (some mm_4)] 145) :: Qv mm_4 ([] : List Int) :: H) := S
 refine Qx E Y fun _ B => QZ (Qq B Y fun _ C => QS C (QV C Y Tryz.underlying116) fun _ D => Qx D Y ?_)
 clear E a B C D; intro a E
 refine JQ ?_
 replace S := S.front1.front1
 exact Qk E Tryz.results109 Y ⟨_, Y, a0, _, a1, ⟨_, _, Y, Y⟩, S⟩
theorem YP {M : Hp} {m0 : Value} {q0 : List (Int × Bool)} (hm0 : qZ M m0 (ZY Value.bool q0)) (hb : q0.length ≤ 1000000000) :
  Sp Tryz.prog (.func (.func 90) #[] #[]) M [m0] [] (fun r M' C' => ∃ b_ m_ l_, C' = [Qh b_ (.cells #[.map (some m_)] 145), Qv m_ l_] ∧ r = .iface 116 (.pointer (some ⟨b_, 0, none⟩)) ∧ (l_.Nodup) ∧ (∀ z, z ∈ l_ ↔ z ∈ q0.map Prod.fst)) := by
 refine Qu Tryz.func90 Y Tryz.ntmps90 Y Tryz.call90 ?_
 intro a w M1 H hM1 S E
 replace hm0 := hm0.le hM1
 refine QF (Qx E Y fun _ B => QZ (Qq B Y fun _ C => QS C ((zb S.imm hm0 C jc Y).trans (by rw [yh])) ?_))
 clear E a B C; intro a E
 refine QB (QI (p := []) E S Y Y Y (Vn (by first | assumption | omega)) lerf ?_)
 clear E a S; rintro a _ w a3 _ a9 ⟨a4, a2, rfl, rfl⟩ S E
 replace S : St w a3 (Qh a4 (.cells #[.map (some a2)] 145) :: Qv a2 ([] : List Int) :: H) := S
 replace hm0 := hm0.le a9
 refine Qx E Y fun _ B => VM (Qq B Y ?_)
 clear E a B; intro a E
 refine QB (Zz E S Y jc hm0 Y ?_)
 clear E a S; rintro a w a5 es_5 ck_6 E a6 S
 replace S : St w a3 (Ys m0 es_5 ck_6 a5 (ZY Value.bool ([] : List (Int × Bool))) :: _) := S
 refine VJ ?_
 replace S := S.front2.front1.front1
 replace S := S.reM (L' := (Sl.encS (Qp [] (([] : List (Int × Bool)).map Prod.fst)))) (congrArg Sl.encS (show ([] : List Int) = (Qp [] (([] : List (Int × Bool)).map Prod.fst)) by first | rfl | (simp [Qp]; done) | (simp [Qe]; done)))
 replace S := S.front1
 refine Jb (γ := List (Int × Bool)) (fun (p : List (Int × Bool)) a w => ∃ (a7 : Hp), Hp.le a3 a7 ∧ St w a7 (Ys m0 es_5 ck_6 a5 (ZY Value.bool p) :: Qv a2 (Qp [] (p.map Prod.fst)) :: Qh a4 (.cells #[.map (some a2)] 145) :: H) ∧ Env a 18 [] [(3, .iface 116 (.pointer (some ⟨a4, 0, none⟩))), (9, .pointer (some ⟨a5, 0, none⟩))] ∧ ((p.map Prod.fst).Nodup) ∧ (∀ z ∈ p, z ∈ q0) ∧ (p.length ≤ q0.length)) (fun p => q0.length - p.length) ([] : List (Int × Bool)) ⟨a3, lerf, S, E.keep ⟨Y, Y, trivial⟩, (by simp), (by simp), (by simp)⟩ ?_
 try clear E
 try clear S
 try clear a
 try clear w
 rintro p a w ⟨a7, a8, S, E, b2, b3, b4⟩
 replace a6 := a6.le a8
 refine QF ?_
 refine QB (vp (vf := Value.bool) E S Y a6 Y (by assumption) (by assumption) ?_ ?_)
 ·clear E a S; rintro a E hpm_9 S
  refine Qj E Y Y ?_
  clear E a; intro a E
  refine ZB ?_
  refine QL E Y Y ?_
  refine Um (JR 2 E Y ?_)
  clear E a; intro a E
  refine JQ ?_
  replace S := S.drop.front1
  exact Qk E Tryz.results90 Y ⟨_, Y, a7, _, (a9.trans a8), ⟨_, _, _, Y, Y, (by (first | assumption | exact Qt _ _ List.nodup_nil | exact Qt _ _ (Qt _ _ List.nodup_nil))), (by (intro z; have ep := List.Perm.map Prod.fst (show p.Perm q0 by first | assumption | (exact List.Perm.symm (by assumption))); have e9 := List.Perm.mem_iff (a := z) ep; simp only [JP, List.not_mem_nil, false_or]; exact e9))⟩, S⟩
 ·clear E a S w; rintro a w a0 a1 E hk_11 hk_11n hk_11l S
  refine Qj E Y Y ?_
  clear E a; intro a E
  refine ZB ?_
  refine Jj E Y Y ?_
  refine Ja (JG (Jw (QF (Zy (k := a0) (v := .bool a1) E (by have S1 := S; simp only [ZY, List.map_append, List.map_cons, List.map_nil] at S1; exact S1) a6 Y fun _ B => Qj B Y Y fun _ C => Qx C Y fun _ D => qd (JR 2 D Y ?_)))))
  clear E a B C D; intro a E
  have hmc_13 := JV (S.mem (.tail _ (.tail _ (.head _))))
  replace S := S.front1
  refine QB (ja (p := [Qv a2 (Qp [] (p.map Prod.fst))]) E S Y Y Y (WT Y hmc_13) Tryz.call86 (U_Add) lerf ?_)
  clear E a S; rintro a _ w b0 _ b1 ⟨⟨_, rfl⟩, rfl⟩ S E
  replace S : St w b0 (Qv a2 (Zr (Qp [] (p.map Prod.fst)) a0) :: Ys m0 es_5 ck_6 a5 (ZY Value.bool (p ++ [(a0, a1)])) :: Qh a4 (.cells #[.map (some a2)] 145) :: H) := S
  refine QQ (ZN (JG ?_))
  replace S := S.front2.front1.front2.front1
  replace S := S.reM (L' := (Sl.encS (Qp [] ((p ++ [(a0, a1)]).map Prod.fst)))) (congrArg Sl.encS (show Zr (Qp [] (p.map Prod.fst)) a0 = (Qp [] ((p ++ [(a0, a1)]).map Prod.fst)) by first | rfl | (simp [Qp]; done) | (simp [Qe]; done)))
  replace S := S.front1
  replace S := S.reIt (p' := (ZY Value.bool (p ++ [(a0, a1)]))) (congrArg (ZY Value.bool) (show p ++ [(a0, a1)] = (p ++ [(a0, a1)]) by first | rfl | (simp [Qp]; done) | (simp [Qe]; done)))
  exact ⟨(p ++ [(a0, a1)]), ⟨b0, (a8.trans b1), S, E.keep ⟨Y, Y, trivial⟩, (by exact snocNG (by assumption) (by assumption)), (by exact snocSG (by assumption) (by assumption)), (by simp; omega)⟩, (by simp; omega)⟩
theorem O_keySet {M : Hp} {v1 : Value} {l1 : List Int} (h1 : Zh M v1 l1)(hb : l1.length ≤ 1000000000) :
  Sp Tryz.prog (.func (.func 63) #[] #[]) M [.bool false, v1] [] (fun r M' C' => ∃ b_ m_ l_, C' = [Qh b_ (.cells #[.map (some m_)] 145), Qv m_ l_] ∧ r = .iface 116 (.pointer (some ⟨b_, 0, none⟩)) ∧ (l_.Nodup) ∧ (∀ z, z ∈ l_ ↔ z ∈ l1)) := by
 refine Qu Tryz.func63 Y Tryz.ntmps63 Y Tryz.call63 ?_
 intro a w M1 H hM1 S E
 replace h1 := h1.le hM1
 have b1 := h1.bound
 have hmb := (WR l1).2
 refine QF (Qx E Y ?_)
 clear E a; intro a E
 refine QZ ?_
 refine QB (jb E S Y ?_)
 clear E a S; rintro a w a1 E S
 replace S : St w M1 (vY Value.bool a1 ([] : List (Int × Bool)) :: _) := S
 refine Qx E Y fun _ B => VM (Qq B Y fun _ C => Jl C Y JE h1.len fun _ D => Qq D Y ?_)
 clear E a B C D; intro a E
 refine VJ ?_
 replace S := S.reM (L' := (ZY Value.bool (zo (l1.take 0)))) (congrArg (ZY Value.bool) (show ([] : List (Int × Bool)) = zo (l1.take 0) by first | rfl | exact WQ (by assumption)))
 refine Jb (γ := Nat) (fun (k : Nat) a w => ∃ (a0 : Hp), Hp.le M1 a0 ∧ St w a0 (vY Value.bool a1 (zo (l1.take k)) :: H) ∧ Env a 23 [] [(0, .bool false), (5, .map (some a1)), (9, v1), (10, .int .i64 (((l1).length : Nat) : Int)), (11, .int .i64 ((k : Nat) : Int))] ∧ (k ≤ (l1).length)) (fun k => ((l1).length) - k) 0 ⟨M1, lerf, S, E.keep ⟨Y, Y, Y, Y, Y, trivial⟩, by ((try clear S); (try clear E); first | assumption | omega | rfl | (simp; done) | (simp_all; done) | (simp [List.take_add_one, *]; done) | grind [List.take_add_one])⟩ ?_
 try clear E
 try clear S
 try clear a
 try clear w
 rintro k a w ⟨a0, a2, S, E, b5⟩
 replace h1 := h1.le a2
 refine QF (ZG E Y Y ?_)
 clear E a; intro a E
 refine ZB ?_
 refine QJ E Y (fun a5 => ?_) (fun a5 => ?_)
 ·refine zC ?_
  obtain ⟨a6, a7⟩ : ∃ x, (l1)[k]? = some x := ⟨_, List.getElem?_eq_getElem (by first | omega | (simp; done) | (simp; omega) | (simp_all; omega))⟩
  obtain ⟨b6, a8, a9⟩ := h1.at a7
  refine Yh E Y Y JE a8 Y fun _ B => Qz B Y Tryz.isAgg3 S.imm a9 fun _ C => Qx C Y fun _ D => qd (JR 2 D Y ?_)
  clear E a B C D; intro a E
  refine Jq (zZ (vf := Value.bool) (u := true) E S jc Y Y Y ?_)
  clear E a S; rintro a w E S
  refine J_k (QY (m := ((k + 1 : Nat) : Int)) E Y Y fun _ B => Qq B Y ?_)
  clear E a B; intro a E
  refine Jx ?_
  replace S := S.reM (L' := (ZY Value.bool (zo (l1.take (k + 1))))) (congrArg (ZY Value.bool) (show Yq (zo (l1.take k)) a6 true = zo (l1.take (k + 1)) by first | rfl | exact WQ (by assumption)))
  exact ⟨k + 1, ⟨a0, a2, S, E.keep ⟨Y, Y, Y, Y, Y, trivial⟩, by ((try clear S); (try clear E); first | assumption | omega | rfl | (simp; done) | (simp_all; done) | (simp [List.take_add_one, *]; done) | grind [List.take_add_one])⟩, by omega⟩
 ·refine Yu (qk (qk (B_x (JG (J_p (Qq E Y ?_))))))
  clear E a; intro a E
  refine Jx ?_
  refine QL E Y Y ?_
  refine J_l (Qq E Y ?_)
  clear E a; intro a E
  have S0 := S; clear S
  obtain ⟨b7, b0, b2, S⟩ := S0.freezeM
  clear S0
  refine QB (QI (p := []) E S Y Y Y (YP b2 (by first | assumption | omega | (rw [List.take_of_length_le (by omega)]; omega))) lerf ?_)
  clear E a S; rintro a _ w a3 _ b3 ⟨b4, a4, l_11, rfl, rfl, b8, b9⟩ S E
  replace S : St w a3 (Qh b4 (.cells #[.map (some a4)] 145) :: Qv a4 l_11 :: H) := S
  refine Qx E Y ?_
  clear E a; intro a E
  refine JQ ?_
  replace S := S.front1.front1
  exact Qk E Tryz.results63 Y ⟨_, Y, a3, _, (a2.trans (b0.trans b3)), ⟨_, _, _, Y, Y, (by assumption), (by (intro z; first | exact (by assumption : ∀ z, z ∈ _ ↔ z ∈ (zo (l1.take k)).map Prod.fst) z |>.trans (by rw [List.take_of_length_le (by omega)]; exact (WR l1).1 z)))⟩, S⟩
theorem Gi {M : Hp} {n0 : Nat} (hb0 : n0 ≤ 1000000000000) :
  Sp Tryz.prog (.func (.func 108) #[] #[]) M [.int .i64 ((n0 : Nat) : Int)] [] (fun r M' C' => ∃ p_ b_ m_, C' = [Qh p_ (.cells #[.int .i32 0, .int .u32 0, .int .u32 0, .int .u32 0, .int .i32 0, .int .i32 0, .pointer (some ⟨b_, 0, none⟩)] 144), Qh b_ (.cells #[.map (some m_)] 145), Qv m_ ([] : List Int)] ∧ r = .iface 114 (.pointer (some ⟨p_, 0, none⟩))) := by
 refine Qu Tryz.func108 Y Tryz.ntmps108 Y Tryz.call108 ?_
 intro a w M1 H hM1 S E
 refine QF (Qx E Y fun _ B => QZ (Qq B Y ?_))
 clear E a B; intro a E
 refine QB (QI (p := []) E S Y Y Y (S_new (by first | assumption | omega)) lerf ?_)
 clear E a S; rintro a _ w a0 _ a2 ⟨a3, a1, mm_4, rfl, rfl⟩ S E
 replace S : St w a0 (Qh a3 (.cells #[.int .i32 0, .int .u32 0, .int .u32 0, .int .u32 0, .int .i32 0, .int .i32 0, .pointer (some ⟨a1, 0, none⟩)] 144) :: Qh a1 (.cells #[.map (some mm_4)] 145) :: Qv mm_4 ([] : List Int) :: H) := S
 refine Qx E Y fun _ B => QZ (Qq B Y fun _ C => QS C (QV C Y Tryz.underlying114) fun _ D => Qx D Y ?_)
 clear E a B C D; intro a E
 refine JQ ?_
 replace S := S.front2.front2.front2
 exact Qk E Tryz.results108 Y ⟨_, Y, a0, _, a2, ⟨_, _, _, Y, Y⟩, S⟩
theorem UP {M : Hp} {m0 : Value} {q0 : List (Int × Bool)} (hm0 : qZ M m0 (ZY Value.bool q0)) (hb : q0.length ≤ 1000000000) :
  Sp Tryz.prog (.func (.func 89) #[] #[]) M [m0] [] (fun r M' C' => ∃ p_ b_ m_ l_, C' = [Qh p_ (.cells #[.int .i32 0, .int .u32 0, .int .u32 0, .int .u32 0, .int .i32 0, .int .i32 0, .pointer (some ⟨b_, 0, none⟩)] 144), Qh b_ (.cells #[.map (some m_)] 145), Qv m_ l_] ∧ r = .iface 114 (.pointer (some ⟨p_, 0, none⟩)) ∧ (l_.Nodup) ∧ (∀ z, z ∈ l_ ↔ z ∈ q0.map Prod.fst)) := by
 refine Qu Tryz.func89 Y Tryz.ntmps89 Y Tryz.call89 ?_
 intro a w M1 H hM1 S E
 replace hm0 := hm0.le hM1
 refine QF (Qx E Y fun _ B => QZ (Qq B Y fun _ C => QS C ((zb S.imm hm0 C jc Y).trans (by rw [yh])) ?_))
 clear E a B C; intro a E
 refine QB (QI (p := []) E S Y Y Y (Gi (by first | assumption | omega)) lerf ?_)
 clear E a S; rintro a _ w a5 _ b0 ⟨a4, a1, a2, rfl, rfl⟩ S E
 replace S : St w a5 (Qh a4 (.cells #[.int .i32 0, .int .u32 0, .int .u32 0, .int .u32 0, .int .i32 0, .int .i32 0, .pointer (some ⟨a1, 0, none⟩)] 144) :: Qh a1 (.cells #[.map (some a2)] 145) :: Qv a2 ([] : List Int) :: H) := S
 replace hm0 := hm0.le b0
 refine Qx E Y fun _ B => VM (Qq B Y ?_)
 clear E a B; intro a E
 refine QB (Zz E S Y jc hm0 Y ?_)
 clear E a S; rintro a w a6 es_6 ck_7 E a7 S
 replace S : St w a5 (Ys m0 es_6 ck_7 a6 (ZY Value.bool ([] : List (Int × Bool))) :: _) := S
 refine VJ ?_
 replace S := S.front3.front1.front1
 replace S := S.reM (L' := (Sl.encS (Qp [] (([] : List (Int × Bool)).map Prod.fst)))) (congrArg Sl.encS (show ([] : List Int) = (Qp [] (([] : List (Int × Bool)).map Prod.fst)) by first | rfl | (simp [Qp]; done) | (simp [Qe]; done)))
 replace S := S.front1
 refine Jb (γ := List (Int × Bool)) (fun (p : List (Int × Bool)) a w => ∃ (a8 : Hp), Hp.le a5 a8 ∧ St w a8 (Ys m0 es_6 ck_7 a6 (ZY Value.bool p) :: Qv a2 (Qp [] (p.map Prod.fst)) :: Qh a4 (.cells #[.int .i32 0, .int .u32 0, .int .u32 0, .int .u32 0, .int .i32 0, .int .i32 0, .pointer (some ⟨a1, 0, none⟩)] 144) :: Qh a1 (.cells #[.map (some a2)] 145) :: H) ∧ Env a 18 [] [(3, .iface 114 (.pointer (some ⟨a4, 0, none⟩))), (9, .pointer (some ⟨a6, 0, none⟩))] ∧ ((p.map Prod.fst).Nodup) ∧ (∀ z ∈ p, z ∈ q0) ∧ (p.length ≤ q0.length)) (fun p => q0.length - p.length) ([] : List (Int × Bool)) ⟨a5, lerf, S, E.keep ⟨Y, Y, trivial⟩, (by simp), (by simp), (by simp)⟩ ?_
 try clear E
 try clear S
 try clear a
 try clear w
 rintro p a w ⟨a8, a9, S, E, b3, b4, b5⟩
 replace a7 := a7.le a9
 refine QF ?_
 refine QB (vp (vf := Value.bool) E S Y a7 Y (by assumption) (by assumption) ?_ ?_)
 ·clear E a S; rintro a E hpm_10 S
  refine Qj E Y Y ?_
  clear E a; intro a E
  refine ZB ?_
  refine QL E Y Y ?_
  refine Um (JR 2 E Y ?_)
  clear E a; intro a E
  refine JQ ?_
  replace S := S.drop.front2.front2
  exact Qk E Tryz.results89 Y ⟨_, Y, a8, _, (b0.trans a9), ⟨_, _, _, _, Y, Y, (by (first | assumption | exact Qt _ _ List.nodup_nil | exact Qt _ _ (Qt _ _ List.nodup_nil))), (by (intro z; have ep := List.Perm.map Prod.fst (show p.Perm q0 by first | assumption | (exact List.Perm.symm (by assumption))); have e9 := List.Perm.mem_iff (a := z) ep; simp only [JP, List.not_mem_nil, false_or]; exact e9))⟩, S⟩
 ·clear E a S w; rintro a w a0 a3 E hk_12 hk_12n hk_12l S
  refine Qj E Y Y ?_
  clear E a; intro a E
  refine ZB ?_
  refine Jj E Y Y ?_
  refine Ja (JG (Jw (QF (Zy (k := a0) (v := .bool a3) E (by have S1 := S; simp only [ZY, List.map_append, List.map_cons, List.map_nil] at S1; exact S1) a7 Y fun _ B => Qj B Y Y fun _ C => Qx C Y fun _ D => qd (JR 2 D Y ?_)))))
  clear E a B C D; intro a E
  replace S := S.front1.front3.front3
  refine QB (ja (p := [Qh a4 (.cells #[.int .i32 0, .int .u32 0, .int .u32 0, .int .u32 0, .int .i32 0, .int .i32 0, .pointer (some ⟨a1, 0, none⟩)] 144), Qh a1 (.cells #[.map (some a2)] 145), Qv a2 (Qp [] (p.map Prod.fst))]) E S Y Y Y (WV _ _) Tryz.call84 (S_Add) lerf ?_)
  clear E a S; rintro a _ w b1 _ b2 ⟨⟨_, rfl⟩, rfl⟩ S E
  replace S : St w b1 (Qh a4 (.cells #[.int .i32 0, .int .u32 0, .int .u32 0, .int .u32 0, .int .i32 0, .int .i32 0, .pointer (some ⟨a1, 0, none⟩)] 144) :: Qh a1 (.cells #[.map (some a2)] 145) :: Qv a2 (Zr (Qp [] (p.map Prod.fst)) a0) :: Ys m0 es_6 ck_7 a6 (ZY Value.bool (p ++ [(a0, a3)])) :: H) := S
  refine QQ (ZN (JG ?_))
  replace S := S.front1.front1.front2.front3.front1
  replace S := S.reM (L' := (Sl.encS (Qp [] ((p ++ [(a0, a3)]).map Prod.fst)))) (congrArg Sl.encS (show Zr (Qp [] (p.map Prod.fst)) a0 = (Qp [] ((p ++ [(a0, a3)]).map Prod.fst)) by first | rfl | (simp [Qp]; done) | (simp [Qe]; done)))
  replace S := S.front1
  replace S := S.reIt (p' := (ZY Value.bool (p ++ [(a0, a3)]))) (congrArg (ZY Value.bool) (show p ++ [(a0, a3)] = (p ++ [(a0, a3)]) by first | rfl | (simp [Qp]; done) | (simp [Qe]; done)))
  exact ⟨(p ++ [(a0, a3)]), ⟨b1, (a9.trans b2), S, E.keep ⟨Y, Y, trivial⟩, (by exact snocNG (by assumption) (by assumption)), (by exact snocSG (by assumption) (by assumption)), (by simp; omega)⟩, (by simp; omega)⟩
theorem vZ {M : Hp} {v1 : Value} {l1 : List Int} (h1 : Zh M v1 l1)(hb : l1.length ≤ 1000000000) :
  Sp Tryz.prog (.func (.func 63) #[] #[]) M [.bool true, v1] [] (fun r M' C' => ∃ p_ b_ m_ l_, C' = [Qh p_ (.cells #[.int .i32 0, .int .u32 0, .int .u32 0, .int .u32 0, .int .i32 0, .int .i32 0, .pointer (some ⟨b_, 0, none⟩)] 144), Qh b_ (.cells #[.map (some m_)] 145), Qv m_ l_] ∧ r = .iface 114 (.pointer (some ⟨p_, 0, none⟩)) ∧ (l_.Nodup) ∧ (∀ z, z ∈ l_ ↔ z ∈ l1)) := by
 refine Qu Tryz.func63 Y Tryz.ntmps63 Y Tryz.call63 ?_
 intro a w M1 H hM1 S E
 replace h1 := h1.le hM1
 have b1 := h1.bound
 have hmb := (WR l1).2
 refine QF (Qx E Y ?_)
 clear E a; intro a E
 refine QZ ?_
 refine QB (jb E S Y ?_)
 clear E a S; rintro a w a1 E S
 replace S : St w M1 (vY Value.bool a1 ([] : List (Int × Bool)) :: _) := S
 refine Qx E Y fun _ B => VM (Qq B Y fun _ C => Jl C Y JE h1.len fun _ D => Qq D Y ?_)
 clear E a B C D; intro a E
 refine VJ ?_
 replace S := S.reM (L' := (ZY Value.bool (zo (l1.take 0)))) (congrArg (ZY Value.bool) (show ([] : List (Int × Bool)) = zo (l1.take 0) by first | rfl | exact WQ (by assumption)))
 refine Jb (γ := Nat) (fun (k : Nat) a w => ∃ (a0 : Hp), Hp.le M1 a0 ∧ St w a0 (vY Value.bool a1 (zo (l1.take k)) :: H) ∧ Env a 23 [] [(0, .bool true), (5, .map (some a1)), (9, v1), (10, .int .i64 (((l1).length : Nat) : Int)), (11, .int .i64 ((k : Nat) : Int))] ∧ (k ≤ (l1).length)) (fun k => ((l1).length) - k) 0 ⟨M1, lerf, S, E.keep ⟨Y, Y, Y, Y, Y, trivial⟩, by ((try clear S); (try clear E); first | assumption | omega | rfl | (simp; done) | (simp_all; done) | (simp [List.take_add_one, *]; done) | grind [List.take_add_one])⟩ ?_
 try clear E
 try clear S
 try clear a
 try clear w
 rintro k a w ⟨a0, a2, S, E, b6⟩
 replace h1 := h1.le a2
 refine QF (ZG E Y Y ?_)
 clear E a; intro a E
 refine ZB ?_
 refine QJ E Y (fun a6 => ?_) (fun a6 => ?_)
 ·refine zC ?_
  obtain ⟨a7, a8⟩ : ∃ x, (l1)[k]? = some x := ⟨_, List.getElem?_eq_getElem (by first | omega | (simp; done) | (simp; omega) | (simp_all; omega))⟩
  obtain ⟨b7, a9, b0⟩ := h1.at a8
  refine Yh E Y Y JE a9 Y fun _ B => Qz B Y Tryz.isAgg3 S.imm b0 fun _ C => Qx C Y fun _ D => qd (JR 2 D Y ?_)
  clear E a B C D; intro a E
  refine Jq (zZ (vf := Value.bool) (u := true) E S jc Y Y Y ?_)
  clear E a S; rintro a w E S
  refine J_k (QY (m := ((k + 1 : Nat) : Int)) E Y Y fun _ B => Qq B Y ?_)
  clear E a B; intro a E
  refine Jx ?_
  replace S := S.reM (L' := (ZY Value.bool (zo (l1.take (k + 1))))) (congrArg (ZY Value.bool) (show Yq (zo (l1.take k)) a7 true = zo (l1.take (k + 1)) by first | rfl | exact WQ (by assumption)))
  exact ⟨k + 1, ⟨a0, a2, S, E.keep ⟨Y, Y, Y, Y, Y, trivial⟩, by ((try clear S); (try clear E); first | assumption | omega | rfl | (simp; done) | (simp_all; done) | (simp [List.take_add_one, *]; done) | grind [List.take_add_one])⟩, by omega⟩
 ·refine Yu (qk (qk (B_x (JG (J_p (Qq E Y ?_))))))
  clear E a; intro a E
  refine Jx ?_
  refine Jj E Y Y ?_
  refine QF (Qq E Y ?_)
  clear E a; intro a E
  have S0 := S; clear S
  obtain ⟨b8, b2, b3, S⟩ := S0.freezeM
  clear S0
  refine QB (QI (p := []) E S Y Y Y (UP b3 (by first | assumption | omega | (rw [List.take_of_length_le (by omega)]; omega))) lerf ?_)
  clear E a S; rintro a _ w a3 _ b4 ⟨b5, a4, a5, l_12, rfl, rfl, b9, c0⟩ S E
  replace S : St w a3 (Qh b5 (.cells #[.int .i32 0, .int .u32 0, .int .u32 0, .int .u32 0, .int .i32 0, .int .i32 0, .pointer (some ⟨a4, 0, none⟩)] 144) :: Qh a4 (.cells #[.map (some a5)] 145) :: Qv a5 l_12 :: H) := S
  refine Qx E Y ?_
  clear E a; intro a E
  refine WF ?_
  replace S := S.front2.front2.front2
  exact Qk E Tryz.results63 Y ⟨_, Y, a3, _, (a2.trans (b2.trans b4)), ⟨_, _, _, _, Y, Y, (by assumption), (by (intro z; first | exact (by assumption : ∀ z, z ∈ _ ↔ z ∈ (zo (l1.take k)).map Prod.fst) z |>.trans (by rw [List.take_of_length_le (by omega)]; exact (WR l1).1 z)))⟩, S⟩
theorem yB {M : Hp} {x0 : Bool} {v1 : Value} {l1 : List Int} (h1 : Zh M v1 l1) (hb : l1.length ≤ 1000000000) :
  Sp Tryz.prog (.func (.func 63) #[] #[]) M [.bool x0, v1] [] (fun r M' C' => ∃ x : RG, C' = [YO KS x0 x] ∧ r = Zx KS x0 x ∧ x.2.2 = Qw l1) := by
 cases x0
 ·exact qe (O_keySet h1 hb) fun v M2 C ⟨b, m, l, h1, h2, h3, h4⟩ => ⟨[YO KS false (0, .pointer (some ⟨b, 0, none⟩), Qw l1)], ⟨_, Y, h2, Y⟩, fun w M H s => by subst h1; exact yH (K := KS) h3 (fun z => (h4 z).trans JU.symm) s⟩
 ·exact qe (vZ h1 hb) fun v M2 C ⟨p, b, m, l, h1, h2, h3, h4⟩ => ⟨[YO KS true (p, .pointer (some ⟨b, 0, none⟩), Qw l1)], ⟨_, Y, h2, Y⟩, fun w M H s => by subst h1; exact jl (K := KS) h3 (fun z => (h4 z).trans JU.symm) s⟩
theorem impl_set {M : Hp} {x0 : Bool} {v1 : Value} {t9 : List RG} {sd sa sb st sx : Int} {v2 : Value} {l2 : List Int} (h2 : Zh M v2 l2)(hbt : ∀ (i : Nat) (y : RG), t9[i]? = some y → y.2.2.length ≤ 1000000000) (hl : t9.length = 8) (hb2 : l2.length ≤ 1000000000)  :
  Sp Tryz.prog (.func (.func 42) #[] #[]) M [.bool x0, v1, .agg #[.int .i64 sd, .int .i64 sa, .int .i64 sb, .int .i64 st, .int .i64 sx, v2]] [QK KS x0 v1 t9] (fun r M' C' => ∃ t_ is_ n_ u_ al_, C' = [QK KS x0 v1 t_] ∧ r = .agg #[.bool is_, .int .i64 n_, u_] ∧ (Zh M' u_ al_) ∧ (t_.length = 8) ∧ (QM sd (Jg sa) (Jg st) sx l2 ((Zw t9).getD (Jg sa) []) ((Zw t9).getD (Jg sb) []) (Zw t9) (Zw t_) is_ n_ al_)) := by
 refine Qu Tryz.func42 Y Tryz.ntmps42 Y Tryz.call42 ?_
 intro a w M1 H hM1 S E
 replace S : St w M1 (QK KS x0 v1 t9 :: _) := S
 replace h2 := h2.le hM1
 have b2 := h2.bound
 have hbt0 := hbt
 refine QF ?_
 refine QB (Yz (cs := #[.int .i64 sd, .int .i64 sa, .int .i64 sb, .int .i64 st, .int .i64 sx, v2]) E S Y Y Y ?_)
 clear E a S; rintro a w m7 E S
 obtain ⟨j2, a9, a1, S⟩ := S.freezeB
 replace h2 := h2.le a9
 refine QB (ZL (cs := #[.bool false, .int .i64 0, .slice none 0 0]) E S Y Tryz.zeroValue42 Y ?_)
 clear E a S; rintro a w a2 E S
 refine ZB ?_
 have hb_1k3 := a1
 replace S := S.mono_heap (w' := World.drew _) rfl
 replace S := S.front1
 have hkp_4 : ((sa % 8).toNat) < (t9).length := by omega
 obtain ⟨j3, b6⟩ := ptrR S hkp_4
 obtain ⟨a0, a3⟩ : ∃ x : RG, (t9)[(sa % 8).toNat]? = some x := ⟨_, List.getElem?_eq_getElem hkp_4⟩
 have hbx_5 := hbt _ _ a3
 have hcx_5 := JY a0.2.2
 have hkp_6 : ((sb % 8).toNat) < (t9).length := by omega
 obtain ⟨j4, b7⟩ := ptrR S hkp_6
 obtain ⟨a4, a5⟩ : ∃ x : RG, (t9)[(sb % 8).toNat]? = some x := ⟨_, List.getElem?_eq_getElem hkp_6⟩
 have hbx_7 := hbt _ _ a5
 have hcx_7 := JY a4.2.2
 have hkp_8 : ((st % 8).toNat) < (t9).length := by omega
 obtain ⟨m8, b1⟩ := ptrR S hkp_8
 refine QN (C := fun x w => agree j2 w ∧ (x = 5 → w.cell? j3 = some (Zx KS x0 a0)) ∧ (x = 11 → w.cell? j4 = some (Zx KS x0 a4))) (bf := (fun i => bif Nat.beq i 3 then [] else bif Nat.beq i 9 then [] else bif Nat.beq i 15 then [] else [])) [0, 1, 2, 4, 5, 6, 7, 8, 10, 11, 12, 13, 14, 16, 17, 18, 19] [0, 1, 2, 6, 7, 8, 12, 13, 14, 3, 4, 5, 9, 10, 11, 15, 16, 17, 18, 19] Tryz.mixed (by kernel_rfl) (fun x hq => ⟨S.imm, fun _ => Gc S b6 a3, fun _ => Gc S b7 a5⟩) ?_
 refine Qo E Y (fun w hC => (Qi E Y)) fun _ B => Qo B Y (fun w hC => (Ql B Y (FA40_1 _))) fun _ D => Qo D Y (fun w hC => (QG D Y Tryz.isAgg3 hC.1 (Qf hb_1k3 Y))) fun _ F => Qo F Y (fun w hC => (Qi F Y)) fun _ G => Qo G Y (fun w hC => (Ql G Y (FA40_2 _))) fun _ I => Qo I Y (fun w hC => (QG I Y Tryz.isAgg3 hC.1 (Qf hb_1k3 Y))) fun _ J => Qo J Y (fun w hC => (Qi J Y)) fun _ K => Qo K Y (fun w hC => (Ql K Y (FA40_3 _))) fun _ L => Qo L Y (fun w hC => (QG L Y Tryz.isAgg3 hC.1 (Qf hb_1k3 Y))) ?_
 clear E a B D F G I J K L; intro a E
 refine Zd Y Y Y (Jm E S Y Y Y (qL (by first | omega | assumption) (by omega)) lerf ?_)
 clear E a S; rintro a _ w m9 a6 rfl S E
 replace h2 := h2.le a6
 replace a1 := a6.2 _ _ a1
 refine ⟨fun x hq hb => ⟨(Qg a6 S.imm), (fun _ => Gc S b6 a3), (fun _ => Gc S b7 a5)⟩, ?_⟩
 refine Qo E Y (fun w hC => (Yj E Y Y T62 b6 (by omega))) fun _ B => Qo B Y (fun w hC => (Jz B Y (Tryz.isAgg55 _) (hC.2.1 Y))) ?_
 clear E a B; intro a E
 refine Zd Y Y Y (Jm E S Y Y Y (qL (by first | omega | assumption) (by omega)) lerf ?_)
 clear E a S; rintro a _ w n0 a7 rfl S E
 replace h2 := h2.le a7
 replace a1 := a7.2 _ _ a1
 refine ⟨fun x hq hb => ⟨(Qg (a6.trans a7) S.imm), (fun _ => Gc S b6 a3), (fun _ => Gc S b7 a5)⟩, ?_⟩
 refine Qo E Y (fun w hC => (Yj E Y Y T62 b7 (by omega))) fun _ B => Qo B Y (fun w hC => (Jz B Y (Tryz.isAgg55 _) (hC.2.2 Y))) ?_
 clear E a B; intro a E
 refine Zd Y Y Y (Jm E S Y Y Y (qL (by first | omega | assumption) (by omega)) lerf ?_)
 clear E a S; rintro a _ w d5 a8 rfl S E
 replace h2 := h2.le a8
 replace a1 := a8.2 _ _ a1
 refine ⟨fun x hq hb => ⟨(Qg (a6.trans (a7.trans a8)) S.imm), (fun _ => Gc S b6 a3), (fun _ => Gc S b7 a5)⟩, ?_⟩
 refine Qo E Y (fun w hC => (Yj E Y Y T62 b1 (by omega))) fun _ B => Qo B Y (fun w hC => (Qy B Y)) fun _ D => Qo D Y (fun w hC => (Qy D Y)) fun _ F => Qo F Y (fun w hC => (Qy F Y)) ?_
 clear E a B D F; intro a E
 refine Jv (Ju ?_)
 refine JG (J_p (Qa E Y (FA40_0 _) fun _ B => Qz B Y Tryz.isAgg3 S.imm (Qf a1 Y) fun _ D => J_w (Jh D Y Y fun _ F => Qx F Y ?_)))
 clear E a B D F; intro a E
 refine Jx ?_
 refine QJ E Y (fun j5 => ?_) (fun j5 => ?_)
 ·refine Qr (JR 2 E Y fun _ B => Qa B Y (US _) fun _ D => Qz D Y Tryz.isAgg22 S.imm (Qf a1 Y) ?_)
  clear E a B D; intro a E
  refine QB (QI (p := []) E S Y Y Y (zO h2 (by first | assumption | omega | (simp; done))) lerf ?_)
  clear E a S; rintro a _ w d6 _ e8 ⟨i5, rfl, rfl, n1⟩ S E
  replace S : St w d6 (YO KS x0 i5 :: QK KS x0 v1 t9 :: Qh a2 (.cells #[.bool false, .int .i64 0, .slice none 0 0] 42) :: H) := S
  replace h2 := h2.le e8
  replace a1 := e8.2 _ _ a1
  refine QS E (Qb E Y Y) ?_
  clear E a; intro a E
  replace S := S.front1
  refine Jq (VD (x' := i5) E S Y Y (Tryz.sizeOf55 _) b1 hkp_8 ?_)
  clear E a S; rintro a w E S
  refine QQ (ZN (JG (QF (QS E (JB (cs := [.bool false, .int .i64 0, .slice none 0 0]) E Y (Tryz.isAgg42 _) (Tryz.sizeOf42 _) (S.mem (.tail _ (.head _)))) ?_))))
  clear E a; intro a E
  replace S := S.front1
  refine Jq (Je (us := [.bool false, .int .i64 0, .slice none 0 0]) E S Y Y (Tryz.sizeOf42 _) Y (by intro u hu; simp only [List.mem_cons, List.not_mem_nil, or_false] at hu; rcases hu with rfl | rfl | rfl <;> first | exact rfl | exact rfl | exact rfl) ?_)
  clear E a S; rintro a w E S
  replace S : St w d6 (Qh a2 (.cells #[.bool false, .int .i64 0, .slice none 0 0] 42) :: _) := S
  refine JQ ?_
  replace S : St w d6 (WE [] :: _) := S.empty
  replace E : Env a 215 (([] : List Nat).map mk) _ := E
  replace S := S.front2.front2.front2
  exact JC (cs := [.bool false, .int .i64 0, .slice none 0 0]) E S Tryz.results42 Y (fun w => Tryz.isAgg42 w) (fun w => Tryz.sizeOf42 w) (fun w S => ⟨_, Y, d6, _, (a9.trans (a6.trans (a7.trans (a8.trans e8)))), ⟨_, _, _, _, ([] : List Int), Y, Y, (by exact JN.nil _), (by (simp [hl]; done)), (by (rw [show (Zw t9).getD (Jg sa) [] = a0.2.2 from Jc a3, show (Zw t9).getD (Jg sb) [] = a4.2.2 from Jc a5]; (try simp only [JL]); first | exact Zg (by assumption) (by assumption) (by assumption) | exact Zf (by assumption) (by assumption) (by assumption) (by assumption) | (simp [QM, RG.w, Jg, *]; done)))⟩, S.drop⟩)
 ·refine QF (Jh E Y Y fun _ B => Qx B Y ?_)
  clear E a B; intro a E
  refine Jx ?_
  refine QJ E Y (fun j6 => ?_) (fun j6 => ?_)
  ·refine Qr (Qq E Y fun _ B => Qa B Y (jB _) fun _ D => Qz D Y Tryz.isAgg3 S.imm (Qf a1 Y) ?_)
   clear E a B D; intro a E
   refine QB (ZU (p := [QK KS x0 v1 t9]) E S Y Y Y (reg_Add a3) lerf ?_)
   clear E a S; rintro a _ w b8 _ e9 ⟨_, _, rfl, rfl, rfl, rfl⟩ S E
   replace S : St w b8 (QK KS x0 v1 ((t9).set ((sa % 8).toNat) (a0.w (Qw (a0.2.2 ++ [sx])))) :: Qh a2 (.cells #[.bool false, .int .i64 0, .slice none 0 0] 42) :: H) := S
   replace h2 := h2.le e9
   replace a1 := e9.2 _ _ a1
   refine Qa E Y (YZ _) ?_
   clear E a; intro a E
   replace S := S.front1
   refine Jq (JW (f := 0) E S Y Y (Tryz.sizeOf4 _) Y Y ?_)
   clear E a S; rintro a w E S
   replace S : St w b8 (Qh a2 (.cells #[.bool (decide (sx ∉ a0.2.2)), .int .i64 0, .slice none 0 0] 42) :: _) := S
   refine QQ (ZN (JG (QF (QS E (JB (cs := [.bool (decide (sx ∉ a0.2.2)), .int .i64 0, .slice none 0 0]) E Y (Tryz.isAgg42 _) (Tryz.sizeOf42 _) (S.mem (.head _))) ?_))))
   clear E a; intro a E
   refine Jq (Je (us := [.bool (decide (sx ∉ a0.2.2)), .int .i64 0, .slice none 0 0]) E S Y Y (Tryz.sizeOf42 _) Y (by intro u hu; simp only [List.mem_cons, List.not_mem_nil, or_false] at hu; rcases hu with rfl | rfl | rfl <;> first | exact rfl | exact rfl | exact rfl) ?_)
   clear E a S; rintro a w E S
   replace S : St w b8 (Qh a2 (.cells #[.bool (decide (sx ∉ a0.2.2)), .int .i64 0, .slice none 0 0] 42) :: _) := S
   refine JQ ?_
   replace S : St w b8 (WE [] :: _) := S.empty
   replace E : Env a 215 (([] : List Nat).map mk) _ := E
   replace S := S.front2.front2.front2
   exact JC (cs := [.bool (decide (sx ∉ a0.2.2)), .int .i64 0, .slice none 0 0]) E S Tryz.results42 Y (fun w => Tryz.isAgg42 w) (fun w => Tryz.sizeOf42 w) (fun w S => ⟨_, Y, b8, _, (a9.trans (a6.trans (a7.trans (a8.trans e9)))), ⟨_, _, _, _, ([] : List Int), Y, Y, (by exact JN.nil _), (by (simp [hl]; done)), (by (rw [show (Zw t9).getD (Jg sa) [] = a0.2.2 from Jc a3, show (Zw t9).getD (Jg sb) [] = a4.2.2 from Jc a5]; (try simp only [JL]); first | exact Zg (by assumption) (by assumption) (by assumption) | exact Zf (by assumption) (by assumption) (by assumption) (by assumption) | (simp [QM, RG.w, Jg, *]; done)))⟩, S.drop⟩)
  ·refine QF (Jh E Y Y fun _ B => Qx B Y ?_)
   clear E a B; intro a E
   refine Jx ?_
   refine QJ E Y (fun j7 => ?_) (fun j7 => ?_)
   ·refine Qr (Qq E Y fun _ B => Qa B Y (US _) fun _ D => Qz D Y Tryz.isAgg22 S.imm (Qf a1 Y) ?_)
    clear E a B D; intro a E
    refine QB (ZU (p := [QK KS x0 v1 t9]) E S Y Y Y (yD a3 h2 (by omega) (by exact hbt _ _ a3)) lerf ?_)
    clear E a S; rintro a _ w b9 _ f0 ⟨_, _, rfl, rfl, rfl, rfl⟩ S E
    replace S : St w b9 (QK KS x0 v1 ((t9).set ((sa % 8).toNat) (a0.w (Qw (a0.2.2 ++ l2)))) :: Qh a2 (.cells #[.bool false, .int .i64 0, .slice none 0 0] 42) :: H) := S
    replace h2 := h2.le f0
    replace a1 := f0.2 _ _ a1
    refine Qa E Y (jA _) ?_
    clear E a; intro a E
    replace S := S.front1
    refine Jq (JW (f := 1) E S Y Y (Tryz.sizeOf3 _) Y Y ?_)
    clear E a S; rintro a w E S
    replace S : St w b9 (Qh a2 (.cells #[.bool false, .int .i64 (((Qw (a0.2.2 ++ l2)).length : Nat) - ((Jd a0.2.2 : Nat) : Int)), .slice none 0 0] 42) :: _) := S
    refine QQ (ZN (JG (QF (QS E (JB (cs := [.bool false, .int .i64 (((Qw (a0.2.2 ++ l2)).length : Nat) - ((Jd a0.2.2 : Nat) : Int)), .slice none 0 0]) E Y (Tryz.isAgg42 _) (Tryz.sizeOf42 _) (S.mem (.head _))) ?_))))
    clear E a; intro a E
    refine Jq (Je (us := [.bool false, .int .i64 (((Qw (a0.2.2 ++ l2)).length : Nat) - ((Jd a0.2.2 : Nat) : Int)), .slice none 0 0]) E S Y Y (Tryz.sizeOf42 _) Y (by intro u hu; simp only [List.mem_cons, List.not_mem_nil, or_false] at hu; rcases hu with rfl | rfl | rfl <;> first | exact rfl | exact rfl | exact rfl) ?_)
    clear E a S; rintro a w E S
    replace S : St w b9 (Qh a2 (.cells #[.bool false, .int .i64 (((Qw (a0.2.2 ++ l2)).length : Nat) - ((Jd a0.2.2 : Nat) : Int)), .slice none 0 0] 42) :: _) := S
    refine JQ ?_
    replace S : St w b9 (WE [] :: _) := S.empty
    replace E : Env a 215 (([] : List Nat).map mk) _ := E
    replace S := S.front2.front2.front2
    exact JC (cs := [.bool false, .int .i64 (((Qw (a0.2.2 ++ l2)).length : Nat) - ((Jd a0.2.2 : Nat) : Int)), .slice none 0 0]) E S Tryz.results42 Y (fun w => Tryz.isAgg42 w) (fun w => Tryz.sizeOf42 w) (fun w S => ⟨_, Y, b9, _, (a9.trans (a6.trans (a7.trans (a8.trans f0)))), ⟨_, _, _, _, ([] : List Int), Y, Y, (by exact JN.nil _), (by (simp [hl]; done)), (by (rw [show (Zw t9).getD (Jg sa) [] = a0.2.2 from Jc a3, show (Zw t9).getD (Jg sb) [] = a4.2.2 from Jc a5]; (try simp only [JL]); first | exact Zg (by assumption) (by assumption) (by assumption) | exact Zf (by assumption) (by assumption) (by assumption) (by assumption) | (simp [QM, RG.w, Jg, *]; done)))⟩, S.drop⟩)
   ·refine QF (Jh E Y Y fun _ B => Qx B Y ?_)
    clear E a B; intro a E
    refine Jx ?_
    refine QJ E Y (fun j8 => ?_) (fun j8 => ?_)
    ·refine Qr (Qq E Y fun _ B => Qa B Y (jB _) fun _ D => Qz D Y Tryz.isAgg3 S.imm (Qf a1 Y) ?_)
     clear E a B D; intro a E
     refine QB (ZU (p := [QK KS x0 v1 t9]) E S Y Y Y (yC a3) lerf ?_)
     clear E a S; rintro a _ w d7 _ f1 ⟨_, _, rfl, rfl, rfl, rfl⟩ S E
     replace S : St w d7 (QK KS x0 v1 ((t9).set ((sa % 8).toNat) (a0.w (Ji a0.2.2 [sx]))) :: Qh a2 (.cells #[.bool false, .int .i64 0, .slice none 0 0] 42) :: H) := S
     replace h2 := h2.le f1
     replace a1 := f1.2 _ _ a1
     refine QQ (ZN (JG (QF (QS E (JB (cs := [.bool false, .int .i64 0, .slice none 0 0]) E Y (Tryz.isAgg42 _) (Tryz.sizeOf42 _) (S.mem (.tail _ (.head _)))) ?_))))
     clear E a; intro a E
     replace S := S.front1
     refine Jq (Je (us := [.bool false, .int .i64 0, .slice none 0 0]) E S Y Y (Tryz.sizeOf42 _) Y (by intro u hu; simp only [List.mem_cons, List.not_mem_nil, or_false] at hu; rcases hu with rfl | rfl | rfl <;> first | exact rfl | exact rfl | exact rfl) ?_)
     clear E a S; rintro a w E S
     replace S : St w d7 (Qh a2 (.cells #[.bool false, .int .i64 0, .slice none 0 0] 42) :: _) := S
     refine JQ ?_
     replace S : St w d7 (WE [] :: _) := S.empty
     replace E : Env a 215 (([] : List Nat).map mk) _ := E
     replace S := S.front2.front2.front2
     exact JC (cs := [.bool false, .int .i64 0, .slice none 0 0]) E S Tryz.results42 Y (fun w => Tryz.isAgg42 w) (fun w => Tryz.sizeOf42 w) (fun w S => ⟨_, Y, d7, _, (a9.trans (a6.trans (a7.trans (a8.trans f1)))), ⟨_, _, _, _, ([] : List Int), Y, Y, (by exact JN.nil _), (by (simp [hl]; done)), (by (rw [show (Zw t9).getD (Jg sa) [] = a0.2.2 from Jc a3, show (Zw t9).getD (Jg sb) [] = a4.2.2 from Jc a5]; (try simp only [JL]); first | exact Zg (by assumption) (by assumption) (by assumption) | exact Zf (by assumption) (by assumption) (by assumption) (by assumption) | (simp [QM, RG.w, Jg, *]; done)))⟩, S.drop⟩)
    ·refine QF (Jh E Y Y fun _ B => Qx B Y ?_)
     clear E a B; intro a E
     refine Jx ?_
     refine QJ E Y (fun j9 => ?_) (fun j9 => ?_)
     ·refine Qr (Qq E Y fun _ B => Qa B Y (US _) fun _ D => Qz D Y Tryz.isAgg22 S.imm (Qf a1 Y) ?_)
      clear E a B D; intro a E
      refine QB (ZU (p := [QK KS x0 v1 t9]) E S Y Y Y (zl a3 h2) lerf ?_)
      clear E a S; rintro a _ w d8 _ f2 ⟨_, _, rfl, rfl, rfl, rfl⟩ S E
      replace S : St w d8 (QK KS x0 v1 ((t9).set ((sa % 8).toNat) (a0.w (Ji a0.2.2 l2))) :: Qh a2 (.cells #[.bool false, .int .i64 0, .slice none 0 0] 42) :: H) := S
      replace h2 := h2.le f2
      replace a1 := f2.2 _ _ a1
      refine QQ (ZN (JG (QF (QS E (JB (cs := [.bool false, .int .i64 0, .slice none 0 0]) E Y (Tryz.isAgg42 _) (Tryz.sizeOf42 _) (S.mem (.tail _ (.head _)))) ?_))))
      clear E a; intro a E
      replace S := S.front1
      refine Jq (Je (us := [.bool false, .int .i64 0, .slice none 0 0]) E S Y Y (Tryz.sizeOf42 _) Y (by intro u hu; simp only [List.mem_cons, List.not_mem_nil, or_false] at hu; rcases hu with rfl | rfl | rfl <;> first | exact rfl | exact rfl | exact rfl) ?_)
      clear E a S; rintro a w E S
      replace S : St w d8 (Qh a2 (.cells #[.bool false, .int .i64 0, .slice none 0 0] 42) :: _) := S
      refine JQ ?_
      replace S : St w d8 (WE [] :: _) := S.empty
      replace E : Env a 215 (([] : List Nat).map mk) _ := E
      replace S := S.front2.front2.front2
      exact JC (cs := [.bool false, .int .i64 0, .slice none 0 0]) E S Tryz.results42 Y (fun w => Tryz.isAgg42 w) (fun w => Tryz.sizeOf42 w) (fun w S => ⟨_, Y, d8, _, (a9.trans (a6.trans (a7.trans (a8.trans f2)))), ⟨_, _, _, _, ([] : List Int), Y, Y, (by exact JN.nil _), (by (simp [hl]; done)), (by (rw [show (Zw t9).getD (Jg sa) [] = a0.2.2 from Jc a3, show (Zw t9).getD (Jg sb) [] = a4.2.2 from Jc a5]; (try simp only [JL]); first | exact Zg (by assumption) (by assumption) (by assumption) | exact Zf (by assumption) (by assumption) (by assumption) (by assumption) | (simp [QM, RG.w, Jg, *]; done)))⟩, S.drop⟩)
     ·refine QF (Jh E Y Y fun _ B => Qx B Y ?_)
      clear E a B; intro a E
      refine Jx ?_
      refine QJ E Y (fun k0 => ?_) (fun k0 => ?_)
      ·refine Qr (Qq E Y ?_)
       clear E a; intro a E
       refine QB (ZU (p := [QK KS x0 v1 t9]) E S Y Y Y (vF a3) lerf ?_)
       clear E a S; rintro a _ w d9 _ f3 ⟨_, _, rfl, rfl, rfl, rfl⟩ S E
       replace S : St w d9 (QK KS x0 v1 ((t9).set ((sa % 8).toNat) (a0.w ([]))) :: Qh a2 (.cells #[.bool false, .int .i64 0, .slice none 0 0] 42) :: H) := S
       replace h2 := h2.le f3
       replace a1 := f3.2 _ _ a1
       refine QQ (ZN (JG (QF (QS E (JB (cs := [.bool false, .int .i64 0, .slice none 0 0]) E Y (Tryz.isAgg42 _) (Tryz.sizeOf42 _) (S.mem (.tail _ (.head _)))) ?_))))
       clear E a; intro a E
       replace S := S.front1
       refine Jq (Je (us := [.bool false, .int .i64 0, .slice none 0 0]) E S Y Y (Tryz.sizeOf42 _) Y (by intro u hu; simp only [List.mem_cons, List.not_mem_nil, or_false] at hu; rcases hu with rfl | rfl | rfl <;> first | exact rfl | exact rfl | exact rfl) ?_)
       clear E a S; rintro a w E S
       replace S : St w d9 (Qh a2 (.cells #[.bool false, .int .i64 0, .slice none 0 0] 42) :: _) := S
       refine JQ ?_
       replace S : St w d9 (WE [] :: _) := S.empty
       replace E : Env a 215 (([] : List Nat).map mk) _ := E
       replace S := S.front2.front2.front2
       exact JC (cs := [.bool false, .int .i64 0, .slice none 0 0]) E S Tryz.results42 Y (fun w => Tryz.isAgg42 w) (fun w => Tryz.sizeOf42 w) (fun w S => ⟨_, Y, d9, _, (a9.trans (a6.trans (a7.trans (a8.trans f3)))), ⟨_, _, _, _, ([] : List Int), Y, Y, (by exact JN.nil _), (by (simp [hl]; done)), (by (rw [show (Zw t9).getD (Jg sa) [] = a0.2.2 from Jc a3, show (Zw t9).getD (Jg sb) [] = a4.2.2 from Jc a5]; (try simp only [JL]); first | exact Zg (by assumption) (by assumption) (by assumption) | exact Zf (by assumption) (by assumption) (by assumption) (by assumption) | (simp [QM, RG.w, Jg, *]; done)))⟩, S.drop⟩)
      ·refine QF (Jh E Y Y fun _ B => Qx B Y ?_)
       clear E a B; intro a E
       refine Jx ?_
       refine QJ E Y (fun k1 => ?_) (fun k1 => ?_)
       ·refine Qr (JR 2 E Y ?_)
        clear E a; intro a E
        refine QB (ZU (p := [QK KS x0 v1 t9]) E S Y Y Y (vE a3 (by exact hbt _ _ a3)) lerf ?_)
        clear E a S; rintro a _ w e0 _ f4 ⟨_, rfl, i6, rfl, n2, rfl⟩ S E
        replace S : St w e0 (QK KS x0 v1 t9 :: YO KS x0 i6 :: Qh a2 (.cells #[.bool false, .int .i64 0, .slice none 0 0] 42) :: H) := S
        replace h2 := h2.le f4
        replace a1 := f4.2 _ _ a1
        refine QS E (Qb E Y Y) ?_
        clear E a; intro a E
        replace S := S.front1.front1
        refine Jq (VD (x' := i6) E S Y Y (Tryz.sizeOf55 _) b1 hkp_8 ?_)
        clear E a S; rintro a w E S
        refine QQ (ZN (JG (QF (QS E (JB (cs := [.bool false, .int .i64 0, .slice none 0 0]) E Y (Tryz.isAgg42 _) (Tryz.sizeOf42 _) (S.mem (.tail _ (.head _)))) ?_))))
        clear E a; intro a E
        replace S := S.front1
        refine Jq (Je (us := [.bool false, .int .i64 0, .slice none 0 0]) E S Y Y (Tryz.sizeOf42 _) Y (by intro u hu; simp only [List.mem_cons, List.not_mem_nil, or_false] at hu; rcases hu with rfl | rfl | rfl <;> first | exact rfl | exact rfl | exact rfl) ?_)
        clear E a S; rintro a w E S
        replace S : St w e0 (Qh a2 (.cells #[.bool false, .int .i64 0, .slice none 0 0] 42) :: _) := S
        refine JQ ?_
        replace S : St w e0 (WE [] :: _) := S.empty
        replace E : Env a 215 (([] : List Nat).map mk) _ := E
        replace S := S.front2.front2.front2
        exact JC (cs := [.bool false, .int .i64 0, .slice none 0 0]) E S Tryz.results42 Y (fun w => Tryz.isAgg42 w) (fun w => Tryz.sizeOf42 w) (fun w S => ⟨_, Y, e0, _, (a9.trans (a6.trans (a7.trans (a8.trans f4)))), ⟨_, _, _, _, ([] : List Int), Y, Y, (by exact JN.nil _), (by (simp [hl]; done)), (by (rw [show (Zw t9).getD (Jg sa) [] = a0.2.2 from Jc a3, show (Zw t9).getD (Jg sb) [] = a4.2.2 from Jc a5]; (try simp only [JL]); first | exact Zg (by assumption) (by assumption) (by assumption) | exact Zf (by assumption) (by assumption) (by assumption) (by assumption) | (simp [QM, RG.w, Jg, *]; done)))⟩, S.drop⟩)
       ·refine QF (Jh E Y Y fun _ B => Qx B Y ?_)
        clear E a B; intro a E
        refine Jx ?_
        refine QJ E Y (fun k2 => ?_) (fun k2 => ?_)
        ·refine Qr (JR 3 E Y ?_)
         clear E a; intro a E
         refine QB (ZU (p := [QK KS x0 v1 t9]) E S Y Y Y (vC a3 a5 (by exact hbt _ _ a3) (by exact hbt _ _ a5)) lerf ?_)
         clear E a S; rintro a _ w e1 _ f5 ⟨_, rfl, i7, rfl, n3, rfl⟩ S E
         replace S : St w e1 (QK KS x0 v1 t9 :: YO KS x0 i7 :: Qh a2 (.cells #[.bool false, .int .i64 0, .slice none 0 0] 42) :: H) := S
         replace h2 := h2.le f5
         replace a1 := f5.2 _ _ a1
         refine QS E (Qb E Y Y) ?_
         clear E a; intro a E
         replace S := S.front1.front1
         refine Jq (VD (x' := i7) E S Y Y (Tryz.sizeOf55 _) b1 hkp_8 ?_)
         clear E a S; rintro a w E S
         refine QQ (ZN (JG (QF (QS E (JB (cs := [.bool false, .int .i64 0, .slice none 0 0]) E Y (Tryz.isAgg42 _) (Tryz.sizeOf42 _) (S.mem (.tail _ (.head _)))) ?_))))
         clear E a; intro a E
         replace S := S.front1
         refine Jq (Je (us := [.bool false, .int .i64 0, .slice none 0 0]) E S Y Y (Tryz.sizeOf42 _) Y (by intro u hu; simp only [List.mem_cons, List.not_mem_nil, or_false] at hu; rcases hu with rfl | rfl | rfl <;> first | exact rfl | exact rfl | exact rfl) ?_)
         clear E a S; rintro a w E S
         replace S : St w e1 (Qh a2 (.cells #[.bool false, .int .i64 0, .slice none 0 0] 42) :: _) := S
         refine JQ ?_
         replace S : St w e1 (WE [] :: _) := S.empty
         replace E : Env a 215 (([] : List Nat).map mk) _ := E
         replace S := S.front2.front2.front2
         exact JC (cs := [.bool false, .int .i64 0, .slice none 0 0]) E S Tryz.results42 Y (fun w => Tryz.isAgg42 w) (fun w => Tryz.sizeOf42 w) (fun w S => ⟨_, Y, e1, _, (a9.trans (a6.trans (a7.trans (a8.trans f5)))), ⟨_, _, _, _, ([] : List Int), Y, Y, (by exact JN.nil _), (by (simp [hl]; done)), (by (rw [show (Zw t9).getD (Jg sa) [] = a0.2.2 from Jc a3, show (Zw t9).getD (Jg sb) [] = a4.2.2 from Jc a5]; (try simp only [JL]); first | exact Zg (by assumption) (by assumption) (by assumption) | exact Zf (by assumption) (by assumption) (by assumption) (by assumption) | (simp [QM, RG.w, Jg, *]; done)))⟩, S.drop⟩)
        ·refine QF (Jh E Y Y fun _ B => Qx B Y ?_)
         clear E a B; intro a E
         refine Jx ?_
         refine QJ E Y (fun k3 => ?_) (fun k3 => ?_)
         ·refine Qr (JR 3 E Y ?_)
          clear E a; intro a E
          refine QB (ZU (p := [QK KS x0 v1 t9]) E S Y Y Y (zm a3 a5 (by exact hbt _ _ a3) (by exact hbt _ _ a5)) lerf ?_)
          clear E a S; rintro a _ w e2 _ f6 ⟨_, rfl, i8, rfl, n4, rfl⟩ S E
          replace S : St w e2 (QK KS x0 v1 t9 :: YO KS x0 i8 :: Qh a2 (.cells #[.bool false, .int .i64 0, .slice none 0 0] 42) :: H) := S
          replace h2 := h2.le f6
          replace a1 := f6.2 _ _ a1
          refine QS E (Qb E Y Y) ?_
          clear E a; intro a E
          replace S := S.front1.front1
          refine Jq (VD (x' := i8) E S Y Y (Tryz.sizeOf55 _) b1 hkp_8 ?_)
          clear E a S; rintro a w E S
          refine QQ (ZN (JG (QF (QS E (JB (cs := [.bool false, .int .i64 0, .slice none 0 0]) E Y (Tryz.isAgg42 _) (Tryz.sizeOf42 _) (S.mem (.tail _ (.head _)))) ?_))))
          clear E a; intro a E
          replace S := S.front1
          refine Jq (Je (us := [.bool false, .int .i64 0, .slice none 0 0]) E S Y Y (Tryz.sizeOf42 _) Y (by intro u hu; simp only [List.mem_cons, List.not_mem_nil, or_false] at hu; rcases hu with rfl | rfl | rfl <;> first | exact rfl | exact rfl | exact rfl) ?_)
          clear E a S; rintro a w E S
          replace S : St w e2 (Qh a2 (.cells #[.bool false, .int .i64 0, .slice none 0 0] 42) :: _) := S
          refine JQ ?_
          replace S : St w e2 (WE [] :: _) := S.empty
          replace E : Env a 215 (([] : List Nat).map mk) _ := E
          replace S := S.front2.front2.front2
          exact JC (cs := [.bool false, .int .i64 0, .slice none 0 0]) E S Tryz.results42 Y (fun w => Tryz.isAgg42 w) (fun w => Tryz.sizeOf42 w) (fun w S => ⟨_, Y, e2, _, (a9.trans (a6.trans (a7.trans (a8.trans f6)))), ⟨_, _, _, _, ([] : List Int), Y, Y, (by exact JN.nil _), (by (simp [hl]; done)), (by (rw [show (Zw t9).getD (Jg sa) [] = a0.2.2 from Jc a3, show (Zw t9).getD (Jg sb) [] = a4.2.2 from Jc a5]; (try simp only [JL]); first | exact Zg (by assumption) (by assumption) (by assumption) | exact Zf (by assumption) (by assumption) (by assumption) (by assumption) | (simp [QM, RG.w, Jg, *]; done)))⟩, S.drop⟩)
         ·refine QF (Jh E Y Y fun _ B => Qx B Y ?_)
          clear E a B; intro a E
          refine Jx ?_
          refine QJ E Y (fun k4 => ?_) (fun k4 => ?_)
          ·refine Qr (JR 3 E Y ?_)
           clear E a; intro a E
           refine QB (ZU (p := [QK KS x0 v1 t9]) E S Y Y Y (qx a3 a5 (by exact hbt _ _ a3) (by exact hbt _ _ a5)) lerf ?_)
           clear E a S; rintro a _ w e3 _ f7 ⟨_, rfl, i9, rfl, n5, rfl⟩ S E
           replace S : St w e3 (QK KS x0 v1 t9 :: YO KS x0 i9 :: Qh a2 (.cells #[.bool false, .int .i64 0, .slice none 0 0] 42) :: H) := S
           replace h2 := h2.le f7
           replace a1 := f7.2 _ _ a1
           refine QS E (Qb E Y Y) ?_
           clear E a; intro a E
           replace S := S.front1.front1
           refine Jq (VD (x' := i9) E S Y Y (Tryz.sizeOf55 _) b1 hkp_8 ?_)
           clear E a S; rintro a w E S
           refine QQ (ZN (JG (QF (QS E (JB (cs := [.bool false, .int .i64 0, .slice none 0 0]) E Y (Tryz.isAgg42 _) (Tryz.sizeOf42 _) (S.mem (.tail _ (.head _)))) ?_))))
           clear E a; intro a E
           replace S := S.front1
           refine Jq (Je (us := [.bool false, .int .i64 0, .slice none 0 0]) E S Y Y (Tryz.sizeOf42 _) Y (by intro u hu; simp only [List.mem_cons, List.not_mem_nil, or_false] at hu; rcases hu with rfl | rfl | rfl <;> first | exact rfl | exact rfl | exact rfl) ?_)
           clear E a S; rintro a w E S
           replace S : St w e3 (Qh a2 (.cells #[.bool false, .int .i64 0, .slice none 0 0] 42) :: _) := S
           refine JQ ?_
           replace S : St w e3 (WE [] :: _) := S.empty
           replace E : Env a 215 (([] : List Nat).map mk) _ := E
           replace S := S.front2.front2.front2
           exact JC (cs := [.bool false, .int .i64 0, .slice none 0 0]) E S Tryz.results42 Y (fun w => Tryz.isAgg42 w) (fun w => Tryz.sizeOf42 w) (fun w S => ⟨_, Y, e3, _, (a9.trans (a6.trans (a7.trans (a8.trans f7)))), ⟨_, _, _, _, ([] : List Int), Y, Y, (by exact JN.nil _), (by (simp [hl]; done)), (by (rw [show (Zw t9).getD (Jg sa) [] = a0.2.2 from Jc a3, show (Zw t9).getD (Jg sb) [] = a4.2.2 from Jc a5]; (try simp only [JL]); first | exact Zg (by assumption) (by assumption) (by assumption) | exact Zf (by assumption) (by assumption) (by assumption) (by assumption) | (simp [QM, RG.w, Jg, *]; done)))⟩, S.drop⟩)
          ·refine QF (Jh E Y Y fun _ B => Qx B Y ?_)
           clear E a B; intro a E
           refine Jx ?_
           refine QJ E Y (fun k5 => ?_) (fun k5 => ?_)
           ·refine Qr (JR 3 E Y ?_)
            clear E a; intro a E
            refine QB (ZU (p := [QK KS x0 v1 t9]) E S Y Y Y (VR a3 a5 (by exact hbt _ _ a3) (by exact hbt _ _ a5)) lerf ?_)
            clear E a S; rintro a _ w e4 _ f8 ⟨_, rfl, j0, rfl, n6, rfl⟩ S E
            replace S : St w e4 (QK KS x0 v1 t9 :: YO KS x0 j0 :: Qh a2 (.cells #[.bool false, .int .i64 0, .slice none 0 0] 42) :: H) := S
            replace h2 := h2.le f8
            replace a1 := f8.2 _ _ a1
            refine QS E (Qb E Y Y) ?_
            clear E a; intro a E
            replace S := S.front1.front1
            refine Jq (VD (x' := j0) E S Y Y (Tryz.sizeOf55 _) b1 hkp_8 ?_)
            clear E a S; rintro a w E S
            refine QQ (ZN (JG (QF (QS E (JB (cs := [.bool false, .int .i64 0, .slice none 0 0]) E Y (Tryz.isAgg42 _) (Tryz.sizeOf42 _) (S.mem (.tail _ (.head _)))) ?_))))
            clear E a; intro a E
            replace S := S.front1
            refine Jq (Je (us := [.bool false, .int .i64 0, .slice none 0 0]) E S Y Y (Tryz.sizeOf42 _) Y (by intro u hu; simp only [List.mem_cons, List.not_mem_nil, or_false] at hu; rcases hu with rfl | rfl | rfl <;> first | exact rfl | exact rfl | exact rfl) ?_)
            clear E a S; rintro a w E S
            replace S : St w e4 (Qh a2 (.cells #[.bool false, .int .i64 0, .slice none 0 0] 42) :: _) := S
            refine JQ ?_
            replace S : St w e4 (WE [] :: _) := S.empty
            replace E : Env a 215 (([] : List Nat).map mk) _ := E
            replace S := S.front2.front2.front2
            exact JC (cs := [.bool false, .int .i64 0, .slice none 0 0]) E S Tryz.results42 Y (fun w => Tryz.isAgg42 w) (fun w => Tryz.sizeOf42 w) (fun w S => ⟨_, Y, e4, _, (a9.trans (a6.trans (a7.trans (a8.trans f8)))), ⟨_, _, _, _, ([] : List Int), Y, Y, (by exact JN.nil _), (by (simp [hl]; done)), (by (rw [show (Zw t9).getD (Jg sa) [] = a0.2.2 from Jc a3, show (Zw t9).getD (Jg sb) [] = a4.2.2 from Jc a5]; (try simp only [JL]); first | exact Zg (by assumption) (by assumption) (by assumption) | exact Zf (by assumption) (by assumption) (by assumption) (by assumption) | (simp [QM, RG.w, Jg, *]; done)))⟩, S.drop⟩)
           ·refine QF (Jh E Y Y fun _ B => Qx B Y ?_)
            clear E a B; intro a E
            refine Jx ?_
            refine QJ E Y (fun k6 => ?_) (fun k6 => ?_)
            ·refine Qr (JR 2 E Y ?_)
             clear E a; intro a E
             refine QB (ZU (p := [QK KS x0 v1 t9]) E S Y Y Y (vD a3 a5 (by exact hbt _ _ a3) (by exact hbt _ _ a5)) lerf ?_)
             clear E a S; rintro a _ w c0 _ f9 ⟨_, rfl, rfl, rfl⟩ S E
             replace S : St w c0 (QK KS x0 v1 t9 :: Qh a2 (.cells #[.bool false, .int .i64 0, .slice none 0 0] 42) :: H) := S
             replace h2 := h2.le f9
             replace a1 := f9.2 _ _ a1
             refine Qa E Y (YZ _) ?_
             clear E a; intro a E
             replace S := S.front1
             refine Jq (JW (f := 0) E S Y Y (Tryz.sizeOf4 _) Y Y ?_)
             clear E a S; rintro a w E S
             replace S : St w c0 (Qh a2 (.cells #[.bool (QT a0.2.2 a4.2.2 && QT a4.2.2 a0.2.2), .int .i64 0, .slice none 0 0] 42) :: _) := S
             refine QQ (ZN (JG (QF (QS E (JB (cs := [.bool (QT a0.2.2 a4.2.2 && QT a4.2.2 a0.2.2), .int .i64 0, .slice none 0 0]) E Y (Tryz.isAgg42 _) (Tryz.sizeOf42 _) (S.mem (.head _))) ?_))))
             clear E a; intro a E
             refine Jq (Je (us := [.bool (QT a0.2.2 a4.2.2 && QT a4.2.2 a0.2.2), .int .i64 0, .slice none 0 0]) E S Y Y (Tryz.sizeOf42 _) Y (by intro u hu; simp only [List.mem_cons, List.not_mem_nil, or_false] at hu; rcases hu with rfl | rfl | rfl <;> first | exact rfl | exact rfl | exact rfl) ?_)
             clear E a S; rintro a w E S
             replace S : St w c0 (Qh a2 (.cells #[.bool (QT a0.2.2 a4.2.2 && QT a4.2.2 a0.2.2), .int .i64 0, .slice none 0 0] 42) :: _) := S
             refine JQ ?_
             replace S : St w c0 (WE [] :: _) := S.empty
             replace E : Env a 215 (([] : List Nat).map mk) _ := E
             replace S := S.front2.front2.front2
             exact JC (cs := [.bool (QT a0.2.2 a4.2.2 && QT a4.2.2 a0.2.2), .int .i64 0, .slice none 0 0]) E S Tryz.results42 Y (fun w => Tryz.isAgg42 w) (fun w => Tryz.sizeOf42 w) (fun w S => ⟨_, Y, c0, _, (a9.trans (a6.trans (a7.trans (a8.trans f9)))), ⟨_, _, _, _, ([] : List Int), Y, Y, (by exact JN.nil _), (by (simp [hl]; done)), (by (rw [show (Zw t9).getD (Jg sa) [] = a0.2.2 from Jc a3, show (Zw t9).getD (Jg sb) [] = a4.2.2 from Jc a5]; (try simp only [JL]); first | exact Zg (by assumption) (by assumption) (by assumption) | exact Zf (by assumption) (by assumption) (by assumption) (by assumption) | (simp [QM, RG.w, Jg, *]; done)))⟩, S.drop⟩)
            ·refine QF (Jh E Y Y fun _ B => Qx B Y ?_)
             clear E a B; intro a E
             refine Jx ?_
             refine QJ E Y (fun k7 => ?_) (fun k7 => ?_)
             ·refine Qr (JR 2 E Y ?_)
              clear E a; intro a E
              refine QB (ZU (p := [QK KS x0 v1 t9]) E S Y Y Y (je a3 a5 (by exact hbt _ _ a3) (by exact hbt _ _ a5)) lerf ?_)
              clear E a S; rintro a _ w c1 _ g0 ⟨_, rfl, rfl, rfl⟩ S E
              replace S : St w c1 (QK KS x0 v1 t9 :: Qh a2 (.cells #[.bool false, .int .i64 0, .slice none 0 0] 42) :: H) := S
              replace h2 := h2.le g0
              replace a1 := g0.2 _ _ a1
              refine Qa E Y (YZ _) ?_
              clear E a; intro a E
              replace S := S.front1
              refine Jq (JW (f := 0) E S Y Y (Tryz.sizeOf4 _) Y Y ?_)
              clear E a S; rintro a w E S
              replace S : St w c1 (Qh a2 (.cells #[.bool (QT a0.2.2 a4.2.2), .int .i64 0, .slice none 0 0] 42) :: _) := S
              refine QQ (ZN (JG (QF (QS E (JB (cs := [.bool (QT a0.2.2 a4.2.2), .int .i64 0, .slice none 0 0]) E Y (Tryz.isAgg42 _) (Tryz.sizeOf42 _) (S.mem (.head _))) ?_))))
              clear E a; intro a E
              refine Jq (Je (us := [.bool (QT a0.2.2 a4.2.2), .int .i64 0, .slice none 0 0]) E S Y Y (Tryz.sizeOf42 _) Y (by intro u hu; simp only [List.mem_cons, List.not_mem_nil, or_false] at hu; rcases hu with rfl | rfl | rfl <;> first | exact rfl | exact rfl | exact rfl) ?_)
              clear E a S; rintro a w E S
              replace S : St w c1 (Qh a2 (.cells #[.bool (QT a0.2.2 a4.2.2), .int .i64 0, .slice none 0 0] 42) :: _) := S
              refine JQ ?_
              replace S : St w c1 (WE [] :: _) := S.empty
              replace E : Env a 215 (([] : List Nat).map mk) _ := E
              replace S := S.front2.front2.front2
              exact JC (cs := [.bool (QT a0.2.2 a4.2.2), .int .i64 0, .slice none 0 0]) E S Tryz.results42 Y (fun w => Tryz.isAgg42 w) (fun w => Tryz.sizeOf42 w) (fun w S => ⟨_, Y, c1, _, (a9.trans (a6.trans (a7.trans (a8.trans g0)))), ⟨_, _, _, _, ([] : List Int), Y, Y, (by exact JN.nil _), (by (simp [hl]; done)), (by (rw [show (Zw t9).getD (Jg sa) [] = a0.2.2 from Jc a3, show (Zw t9).getD (Jg sb) [] = a4.2.2 from Jc a5]; (try simp only [JL]); first | exact Zg (by assumption) (by assumption) (by assumption) | exact Zf (by assumption) (by assumption) (by assumption) (by assumption) | (simp [QM, RG.w, Jg, *]; done)))⟩, S.drop⟩)
             ·refine QF (Jh E Y Y fun _ B => Qx B Y ?_)
              clear E a B; intro a E
              refine Jx ?_
              refine QJ E Y (fun k8 => ?_) (fun k8 => ?_)
              ·refine Qr (JR 2 E Y ?_)
               clear E a; intro a E
               refine QB (ZU (p := [QK KS x0 v1 t9]) E S Y Y Y (Ww a3 a5 (by exact hbt _ _ a3) (by exact hbt _ _ a5)) lerf ?_)
               clear E a S; rintro a _ w c2 _ g1 ⟨_, rfl, rfl, rfl⟩ S E
               replace S : St w c2 (QK KS x0 v1 t9 :: Qh a2 (.cells #[.bool false, .int .i64 0, .slice none 0 0] 42) :: H) := S
               replace h2 := h2.le g1
               replace a1 := g1.2 _ _ a1
               refine Qa E Y (YZ _) ?_
               clear E a; intro a E
               replace S := S.front1
               refine Jq (JW (f := 0) E S Y Y (Tryz.sizeOf4 _) Y Y ?_)
               clear E a S; rintro a w E S
               replace S : St w c2 (Qh a2 (.cells #[.bool ((decide (Jd a0.2.2 < Jd a4.2.2)) && QT a0.2.2 a4.2.2), .int .i64 0, .slice none 0 0] 42) :: _) := S
               refine QQ (ZN (JG (QF (QS E (JB (cs := [.bool ((decide (Jd a0.2.2 < Jd a4.2.2)) && QT a0.2.2 a4.2.2), .int .i64 0, .slice none 0 0]) E Y (Tryz.isAgg42 _) (Tryz.sizeOf42 _) (S.mem (.head _))) ?_))))
               clear E a; intro a E
               refine Jq (Je (us := [.bool ((decide (Jd a0.2.2 < Jd a4.2.2)) && QT a0.2.2 a4.2.2), .int .i64 0, .slice none 0 0]) E S Y Y (Tryz.sizeOf42 _) Y (by intro u hu; simp only [List.mem_cons, List.not_mem_nil, or_false] at hu; rcases hu with rfl | rfl | rfl <;> first | exact rfl | exact rfl | exact rfl) ?_)
               clear E a S; rintro a w E S
               replace S : St w c2 (Qh a2 (.cells #[.bool ((decide (Jd a0.2.2 < Jd a4.2.2)) && QT a0.2.2 a4.2.2), .int .i64 0, .slice none 0 0] 42) :: _) := S
               refine JQ ?_
               replace S : St w c2 (WE [] :: _) := S.empty
               replace E : Env a 215 (([] : List Nat).map mk) _ := E
               replace S := S.front2.front2.front2
               exact JC (cs := [.bool ((decide (Jd a0.2.2 < Jd a4.2.2)) && QT a0.2.2 a4.2.2), .int .i64 0, .slice none 0 0]) E S Tryz.results42 Y (fun w => Tryz.isAgg42 w) (fun w => Tryz.sizeOf42 w) (fun w S => ⟨_, Y, c2, _, (a9.trans (a6.trans (a7.trans (a8.trans g1)))), ⟨_, _, _, _, ([] : List Int), Y, Y, (by exact JN.nil _), (by (simp [hl]; done)), (by (rw [show (Zw t9).getD (Jg sa) [] = a0.2.2 from Jc a3, show (Zw t9).getD (Jg sb) [] = a4.2.2 from Jc a5]; (try simp only [JL]); first | exact Zg (by assumption) (by assumption) (by assumption) | exact Zf (by assumption) (by assumption) (by assumption) (by assumption) | (simp [QM, RG.w, Jg, *]; done)))⟩, S.drop⟩)
              ·refine QF (Jh E Y Y fun _ B => Qx B Y ?_)
               clear E a B; intro a E
               refine Jx ?_
               refine QJ E Y (fun k9 => ?_) (fun k9 => ?_)
               ·refine Qr (JR 2 E Y ?_)
                clear E a; intro a E
                refine QB (ZU (p := [QK KS x0 v1 t9]) E S Y Y Y (qw a3 a5 (by exact hbt _ _ a3) (by exact hbt _ _ a5)) lerf ?_)
                clear E a S; rintro a _ w c3 _ g2 ⟨_, rfl, rfl, rfl⟩ S E
                replace S : St w c3 (QK KS x0 v1 t9 :: Qh a2 (.cells #[.bool false, .int .i64 0, .slice none 0 0] 42) :: H) := S
                replace h2 := h2.le g2
                replace a1 := g2.2 _ _ a1
                refine Qa E Y (YZ _) ?_
                clear E a; intro a E
                replace S := S.front1
                refine Jq (JW (f := 0) E S Y Y (Tryz.sizeOf4 _) Y Y ?_)
                clear E a S; rintro a w E S
                replace S : St w c3 (Qh a2 (.cells #[.bool (QT a4.2.2 a0.2.2), .int .i64 0, .slice none 0 0] 42) :: _) := S
                refine QQ (ZN (JG (QF (QS E (JB (cs := [.bool (QT a4.2.2 a0.2.2), .int .i64 0, .slice none 0 0]) E Y (Tryz.isAgg42 _) (Tryz.sizeOf42 _) (S.mem (.head _))) ?_))))
                clear E a; intro a E
                refine Jq (Je (us := [.bool (QT a4.2.2 a0.2.2), .int .i64 0, .slice none 0 0]) E S Y Y (Tryz.sizeOf42 _) Y (by intro u hu; simp only [List.mem_cons, List.not_mem_nil, or_false] at hu; rcases hu with rfl | rfl | rfl <;> first | exact rfl | exact rfl | exact rfl) ?_)
                clear E a S; rintro a w E S
                replace S : St w c3 (Qh a2 (.cells #[.bool (QT a4.2.2 a0.2.2), .int .i64 0, .slice none 0 0] 42) :: _) := S
                refine JQ ?_
                replace S : St w c3 (WE [] :: _) := S.empty
                replace E : Env a 215 (([] : List Nat).map mk) _ := E
                replace S := S.front2.front2.front2
                exact JC (cs := [.bool (QT a4.2.2 a0.2.2), .int .i64 0, .slice none 0 0]) E S Tryz.results42 Y (fun w => Tryz.isAgg42 w) (fun w => Tryz.sizeOf42 w) (fun w S => ⟨_, Y, c3, _, (a9.trans (a6.trans (a7.trans (a8.trans g2)))), ⟨_, _, _, _, ([] : List Int), Y, Y, (by exact JN.nil _), (by (simp [hl]; done)), (by (rw [show (Zw t9).getD (Jg sa) [] = a0.2.2 from Jc a3, show (Zw t9).getD (Jg sb) [] = a4.2.2 from Jc a5]; (try simp only [JL]); first | exact Zg (by assumption) (by assumption) (by assumption) | exact Zf (by assumption) (by assumption) (by assumption) (by assumption) | (simp [QM, RG.w, Jg, *]; done)))⟩, S.drop⟩)
               ·refine QF (Jh E Y Y fun _ B => Qx B Y ?_)
                clear E a B; intro a E
                refine Jx ?_
                refine QJ E Y (fun l0 => ?_) (fun l0 => ?_)
                ·refine Qr (JR 2 E Y ?_)
                 clear E a; intro a E
                 refine QB (ZU (p := [QK KS x0 v1 t9]) E S Y Y Y (Uu a3 a5 (by exact hbt _ _ a3) (by exact hbt _ _ a5)) lerf ?_)
                 clear E a S; rintro a _ w c4 _ g3 ⟨_, rfl, rfl, rfl⟩ S E
                 replace S : St w c4 (QK KS x0 v1 t9 :: Qh a2 (.cells #[.bool false, .int .i64 0, .slice none 0 0] 42) :: H) := S
                 replace h2 := h2.le g3
                 replace a1 := g3.2 _ _ a1
                 refine Qa E Y (YZ _) ?_
                 clear E a; intro a E
                 replace S := S.front1
                 refine Jq (JW (f := 0) E S Y Y (Tryz.sizeOf4 _) Y Y ?_)
                 clear E a S; rintro a w E S
                 replace S : St w c4 (Qh a2 (.cells #[.bool ((decide (Jd a4.2.2 < Jd a0.2.2)) && QT a4.2.2 a0.2.2), .int .i64 0, .slice none 0 0] 42) :: _) := S
                 refine QQ (ZN (JG (QF (QS E (JB (cs := [.bool ((decide (Jd a4.2.2 < Jd a0.2.2)) && QT a4.2.2 a0.2.2), .int .i64 0, .slice none 0 0]) E Y (Tryz.isAgg42 _) (Tryz.sizeOf42 _) (S.mem (.head _))) ?_))))
                 clear E a; intro a E
                 refine Jq (Je (us := [.bool ((decide (Jd a4.2.2 < Jd a0.2.2)) && QT a4.2.2 a0.2.2), .int .i64 0, .slice none 0 0]) E S Y Y (Tryz.sizeOf42 _) Y (by intro u hu; simp only [List.mem_cons, List.not_mem_nil, or_false] at hu; rcases hu with rfl | rfl | rfl <;> first | exact rfl | exact rfl | exact rfl) ?_)
                 clear E a S; rintro a w E S
                 replace S : St w c4 (Qh a2 (.cells #[.bool ((decide (Jd a4.2.2 < Jd a0.2.2)) && QT a4.2.2 a0.2.2), .int .i64 0, .slice none 0 0] 42) :: _) := S
                 refine JQ ?_
                 replace S : St w c4 (WE [] :: _) := S.empty
                 replace E : Env a 215 (([] : List Nat).map mk) _ := E
                 replace S := S.front2.front2.front2
                 exact JC (cs := [.bool ((decide (Jd a4.2.2 < Jd a0.2.2)) && QT a4.2.2 a0.2.2), .int .i64 0, .slice none 0 0]) E S Tryz.results42 Y (fun w => Tryz.isAgg42 w) (fun w => Tryz.sizeOf42 w) (fun w S => ⟨_, Y, c4, _, (a9.trans (a6.trans (a7.trans (a8.trans g3)))), ⟨_, _, _, _, ([] : List Int), Y, Y, (by exact JN.nil _), (by (simp [hl]; done)), (by (rw [show (Zw t9).getD (Jg sa) [] = a0.2.2 from Jc a3, show (Zw t9).getD (Jg sb) [] = a4.2.2 from Jc a5]; (try simp only [JL]); first | exact Zg (by assumption) (by assumption) (by assumption) | exact Zf (by assumption) (by assumption) (by assumption) (by assumption) | (simp [QM, RG.w, Jg, *]; done)))⟩, S.drop⟩)
                ·refine QF (Jh E Y Y fun _ B => Qx B Y ?_)
                 clear E a B; intro a E
                 refine Jx ?_
                 refine QJ E Y (fun l1 => ?_) (fun l1 => ?_)
                 ·refine Qr (JR 2 E Y ?_)
                  clear E a; intro a E
                  refine QB (ZU (p := [QK KS x0 v1 t9]) E S Y Y Y (VY a3 a5 (by exact hbt _ _ a3) (by exact hbt _ _ a5)) lerf ?_)
                  clear E a S; rintro a _ w c5 _ g4 ⟨_, rfl, rfl, rfl⟩ S E
                  replace S : St w c5 (QK KS x0 v1 t9 :: Qh a2 (.cells #[.bool false, .int .i64 0, .slice none 0 0] 42) :: H) := S
                  replace h2 := h2.le g4
                  replace a1 := g4.2 _ _ a1
                  refine Qa E Y (YZ _) ?_
                  clear E a; intro a E
                  replace S := S.front1
                  refine Jq (JW (f := 0) E S Y Y (Tryz.sizeOf4 _) Y Y ?_)
                  clear E a S; rintro a w E S
                  replace S : St w c5 (Qh a2 (.cells #[.bool (ZJ a0.2.2 a4.2.2), .int .i64 0, .slice none 0 0] 42) :: _) := S
                  refine QQ (ZN (JG (QF (QS E (JB (cs := [.bool (ZJ a0.2.2 a4.2.2), .int .i64 0, .slice none 0 0]) E Y (Tryz.isAgg42 _) (Tryz.sizeOf42 _) (S.mem (.head _))) ?_))))
                  clear E a; intro a E
                  refine Jq (Je (us := [.bool (ZJ a0.2.2 a4.2.2), .int .i64 0, .slice none 0 0]) E S Y Y (Tryz.sizeOf42 _) Y (by intro u hu; simp only [List.mem_cons, List.not_mem_nil, or_false] at hu; rcases hu with rfl | rfl | rfl <;> first | exact rfl | exact rfl | exact rfl) ?_)
                  clear E a S; rintro a w E S
                  replace S : St w c5 (Qh a2 (.cells #[.bool (ZJ a0.2.2 a4.2.2), .int .i64 0, .slice none 0 0] 42) :: _) := S
                  refine JQ ?_
                  replace S : St w c5 (WE [] :: _) := S.empty
                  replace E : Env a 215 (([] : List Nat).map mk) _ := E
                  replace S := S.front2.front2.front2
                  exact JC (cs := [.bool (ZJ a0.2.2 a4.2.2), .int .i64 0, .slice none 0 0]) E S Tryz.results42 Y (fun w => Tryz.isAgg42 w) (fun w => Tryz.sizeOf42 w) (fun w S => ⟨_, Y, c5, _, (a9.trans (a6.trans (a7.trans (a8.trans g4)))), ⟨_, _, _, _, ([] : List Int), Y, Y, (by exact JN.nil _), (by (simp [hl]; done)), (by (rw [show (Zw t9).getD (Jg sa) [] = a0.2.2 from Jc a3, show (Zw t9).getD (Jg sb) [] = a4.2.2 from Jc a5]; (try simp only [JL]); first | exact Zg (by assumption) (by assumption) (by assumption) | exact Zf (by assumption) (by assumption) (by assumption) (by assumption) | (simp [QM, RG.w, Jg, *]; done)))⟩, S.drop⟩)
                 ·refine QF (Jh E Y Y fun _ B => Qx B Y ?_)
                  clear E a B; intro a E
                  refine Jx ?_
                  refine QJ E Y (fun l3 => ?_) (fun l3 => ?_)
                  ·refine Qr (Qq E Y fun _ B => Qa B Y (US _) fun _ D => Qz D Y Tryz.isAgg22 S.imm (Qf a1 Y) ?_)
                   clear E a B D; intro a E
                   refine QB (ZU (p := [QK KS x0 v1 t9]) E S Y Y Y (jf a3 h2 (by exact hbt _ _ a3)) lerf ?_)
                   clear E a S; rintro a _ w c6 _ g5 ⟨_, rfl, rfl, rfl⟩ S E
                   replace S : St w c6 (QK KS x0 v1 t9 :: Qh a2 (.cells #[.bool false, .int .i64 0, .slice none 0 0] 42) :: H) := S
                   replace h2 := h2.le g5
                   replace a1 := g5.2 _ _ a1
                   refine Qa E Y (YZ _) ?_
                   clear E a; intro a E
                   replace S := S.front1
                   refine Jq (JW (f := 0) E S Y Y (Tryz.sizeOf4 _) Y Y ?_)
                   clear E a S; rintro a w E S
                   replace S : St w c6 (Qh a2 (.cells #[.bool (QT l2 a0.2.2), .int .i64 0, .slice none 0 0] 42) :: _) := S
                   refine QQ (ZN (JG (QF (QS E (JB (cs := [.bool (QT l2 a0.2.2), .int .i64 0, .slice none 0 0]) E Y (Tryz.isAgg42 _) (Tryz.sizeOf42 _) (S.mem (.head _))) ?_))))
                   clear E a; intro a E
                   refine Jq (Je (us := [.bool (QT l2 a0.2.2), .int .i64 0, .slice none 0 0]) E S Y Y (Tryz.sizeOf42 _) Y (by intro u hu; simp only [List.mem_cons, List.not_mem_nil, or_false] at hu; rcases hu with rfl | rfl | rfl <;> first | exact rfl | exact rfl | exact rfl) ?_)
                   clear E a S; rintro a w E S
                   replace S : St w c6 (Qh a2 (.cells #[.bool (QT l2 a0.2.2), .int .i64 0, .slice none 0 0] 42) :: _) := S
                   refine JQ ?_
                   replace S : St w c6 (WE [] :: _) := S.empty
                   replace E : Env a 215 (([] : List Nat).map mk) _ := E
                   replace S := S.front2.front2.front2
                   exact JC (cs := [.bool (QT l2 a0.2.2), .int .i64 0, .slice none 0 0]) E S Tryz.results42 Y (fun w => Tryz.isAgg42 w) (fun w => Tryz.sizeOf42 w) (fun w S => ⟨_, Y, c6, _, (a9.trans (a6.trans (a7.trans (a8.trans g5)))), ⟨_, _, _, _, ([] : List Int), Y, Y, (by exact JN.nil _), (by (simp [hl]; done)), (by (rw [show (Zw t9).getD (Jg sa) [] = a0.2.2 from Jc a3, show (Zw t9).getD (Jg sb) [] = a4.2.2 from Jc a5]; (try simp only [JL]); first | exact Zg (by assumption) (by assumption) (by assumption) | exact Zf (by assumption) (by assumption) (by assumption) (by assumption) | (simp [QM, RG.w, Jg, *]; done)))⟩, S.drop⟩)
                  ·refine QF (Jh E Y Y fun _ B => Qx B Y ?_)
                   clear E a B; intro a E
                   refine Jx ?_
                   refine QJ E Y (fun l4 => ?_) (fun l4 => ?_)
                   ·refine Qr (Qq E Y fun _ B => Qa B Y (US _) fun _ D => Qz D Y Tryz.isAgg22 S.imm (Qf a1 Y) ?_)
                    clear E a B D; intro a E
                    refine QB (ZU (p := [QK KS x0 v1 t9]) E S Y Y Y (GU a3 h2 (by exact hbt _ _ a3)) lerf ?_)
                    clear E a S; rintro a _ w c7 _ g6 ⟨_, rfl, rfl, rfl⟩ S E
                    replace S : St w c7 (QK KS x0 v1 t9 :: Qh a2 (.cells #[.bool false, .int .i64 0, .slice none 0 0] 42) :: H) := S
                    replace h2 := h2.le g6
                    replace a1 := g6.2 _ _ a1
                    refine Qa E Y (YZ _) ?_
                    clear E a; intro a E
                    replace S := S.front1
                    refine Jq (JW (f := 0) E S Y Y (Tryz.sizeOf4 _) Y Y ?_)
                    clear E a S; rintro a w E S
                    replace S : St w c7 (Qh a2 (.cells #[.bool (ZJ l2 a0.2.2), .int .i64 0, .slice none 0 0] 42) :: _) := S
                    refine QQ (ZN (JG (QF (QS E (JB (cs := [.bool (ZJ l2 a0.2.2), .int .i64 0, .slice none 0 0]) E Y (Tryz.isAgg42 _) (Tryz.sizeOf42 _) (S.mem (.head _))) ?_))))
                    clear E a; intro a E
                    refine Jq (Je (us := [.bool (ZJ l2 a0.2.2), .int .i64 0, .slice none 0 0]) E S Y Y (Tryz.sizeOf42 _) Y (by intro u hu; simp only [List.mem_cons, List.not_mem_nil, or_false] at hu; rcases hu with rfl | rfl | rfl <;> first | exact rfl | exact rfl | exact rfl) ?_)
                    clear E a S; rintro a w E S
                    replace S : St w c7 (Qh a2 (.cells #[.bool (ZJ l2 a0.2.2), .int .i64 0, .slice none 0 0] 42) :: _) := S
                    refine JQ ?_
                    replace S : St w c7 (WE [] :: _) := S.empty
                    replace E : Env a 215 (([] : List Nat).map mk) _ := E
                    replace S := S.front2.front2.front2
                    exact JC (cs := [.bool (ZJ l2 a0.2.2), .int .i64 0, .slice none 0 0]) E S Tryz.results42 Y (fun w => Tryz.isAgg42 w) (fun w => Tryz.sizeOf42 w) (fun w S => ⟨_, Y, c7, _, (a9.trans (a6.trans (a7.trans (a8.trans g6)))), ⟨_, _, _, _, ([] : List Int), Y, Y, (by exact JN.nil _), (by (simp [hl]; done)), (by (rw [show (Zw t9).getD (Jg sa) [] = a0.2.2 from Jc a3, show (Zw t9).getD (Jg sb) [] = a4.2.2 from Jc a5]; (try simp only [JL]); first | exact Zg (by assumption) (by assumption) (by assumption) | exact Zf (by assumption) (by assumption) (by assumption) (by assumption) | (simp [QM, RG.w, Jg, *]; done)))⟩, S.drop⟩)
                   ·refine QF (Jh E Y Y fun _ B => Qx B Y ?_)
                    clear E a B; intro a E
                    refine Jx ?_
                    refine QJ E Y (fun l5 => ?_) (fun l5 => ?_)
                    ·refine Qr (Qq E Y fun _ B => Qa B Y (jB _) fun _ D => Qz D Y Tryz.isAgg3 S.imm (Qf a1 Y) ?_)
                     clear E a B D; intro a E
                     refine QB (ZU (p := [QK KS x0 v1 t9]) E S Y Y Y (GT a3 (by exact hbt _ _ a3)) lerf ?_)
                     clear E a S; rintro a _ w c8 _ g7 ⟨_, rfl, rfl, rfl⟩ S E
                     replace S : St w c8 (QK KS x0 v1 t9 :: Qh a2 (.cells #[.bool false, .int .i64 0, .slice none 0 0] 42) :: H) := S
                     replace h2 := h2.le g7
                     replace a1 := g7.2 _ _ a1
                     refine Qa E Y (YZ _) ?_
                     clear E a; intro a E
                     replace S := S.front1
                     refine Jq (JW (f := 0) E S Y Y (Tryz.sizeOf4 _) Y Y ?_)
                     clear E a S; rintro a w E S
                     replace S : St w c8 (Qh a2 (.cells #[.bool (decide (sx ∈ a0.2.2)), .int .i64 0, .slice none 0 0] 42) :: _) := S
                     refine QQ (ZN (JG (QF (QS E (JB (cs := [.bool (decide (sx ∈ a0.2.2)), .int .i64 0, .slice none 0 0]) E Y (Tryz.isAgg42 _) (Tryz.sizeOf42 _) (S.mem (.head _))) ?_))))
                     clear E a; intro a E
                     refine Jq (Je (us := [.bool (decide (sx ∈ a0.2.2)), .int .i64 0, .slice none 0 0]) E S Y Y (Tryz.sizeOf42 _) Y (by intro u hu; simp only [List.mem_cons, List.not_mem_nil, or_false] at hu; rcases hu with rfl | rfl | rfl <;> first | exact rfl | exact rfl | exact rfl) ?_)
                     clear E a S; rintro a w E S
                     replace S : St w c8 (Qh a2 (.cells #[.bool (decide (sx ∈ a0.2.2)), .int .i64 0, .slice none 0 0] 42) :: _) := S
                     refine JQ ?_
                     replace S : St w c8 (WE [] :: _) := S.empty
                     replace E : Env a 215 (([] : List Nat).map mk) _ := E
                     replace S := S.front2.front2.front2
                     exact JC (cs := [.bool (decide (sx ∈ a0.2.2)), .int .i64 0, .slice none 0 0]) E S Tryz.results42 Y (fun w => Tryz.isAgg42 w) (fun w => Tryz.sizeOf42 w) (fun w S => ⟨_, Y, c8, _, (a9.trans (a6.trans (a7.trans (a8.trans g7)))), ⟨_, _, _, _, ([] : List Int), Y, Y, (by exact JN.nil _), (by (simp [hl]; done)), (by (rw [show (Zw t9).getD (Jg sa) [] = a0.2.2 from Jc a3, show (Zw t9).getD (Jg sb) [] = a4.2.2 from Jc a5]; (try simp only [JL]); first | exact Zg (by assumption) (by assumption) (by assumption) | exact Zf (by assumption) (by assumption) (by assumption) (by assumption) | (simp [QM, RG.w, Jg, *]; done)))⟩, S.drop⟩)
                    ·refine QF (Jh E Y Y fun _ B => Qx B Y ?_)
                     clear E a B; intro a E
                     refine Jx ?_
                     refine QJ E Y (fun l6 => ?_) (fun l6 => ?_)
                     ·refine Qr (Qq E Y ?_)
                      clear E a; intro a E
                      refine QB (ZU (p := [QK KS x0 v1 t9]) E S Y Y Y (GV a3 (by exact hbt _ _ a3)) lerf ?_)
                      clear E a S; rintro a _ w c9 _ g8 ⟨_, rfl, rfl, rfl⟩ S E
                      replace S : St w c9 (QK KS x0 v1 t9 :: Qh a2 (.cells #[.bool false, .int .i64 0, .slice none 0 0] 42) :: H) := S
                      replace h2 := h2.le g8
                      replace a1 := g8.2 _ _ a1
                      refine Qa E Y (jA _) ?_
                      clear E a; intro a E
                      replace S := S.front1
                      refine Jq (JW (f := 1) E S Y Y (Tryz.sizeOf3 _) Y Y ?_)
                      clear E a S; rintro a w E S
                      replace S : St w c9 (Qh a2 (.cells #[.bool false, .int .i64 ((Jd a0.2.2 : Nat) : Int), .slice none 0 0] 42) :: _) := S
                      refine QQ (ZN (JG (QF (QS E (JB (cs := [.bool false, .int .i64 ((Jd a0.2.2 : Nat) : Int), .slice none 0 0]) E Y (Tryz.isAgg42 _) (Tryz.sizeOf42 _) (S.mem (.head _))) ?_))))
                      clear E a; intro a E
                      refine Jq (Je (us := [.bool false, .int .i64 ((Jd a0.2.2 : Nat) : Int), .slice none 0 0]) E S Y Y (Tryz.sizeOf42 _) Y (by intro u hu; simp only [List.mem_cons, List.not_mem_nil, or_false] at hu; rcases hu with rfl | rfl | rfl <;> first | exact rfl | exact rfl | exact rfl) ?_)
                      clear E a S; rintro a w E S
                      replace S : St w c9 (Qh a2 (.cells #[.bool false, .int .i64 ((Jd a0.2.2 : Nat) : Int), .slice none 0 0] 42) :: _) := S
                      refine JQ ?_
                      replace S : St w c9 (WE [] :: _) := S.empty
                      replace E : Env a 215 (([] : List Nat).map mk) _ := E
                      replace S := S.front2.front2.front2
                      exact JC (cs := [.bool false, .int .i64 ((Jd a0.2.2 : Nat) : Int), .slice none 0 0]) E S Tryz.results42 Y (fun w => Tryz.isAgg42 w) (fun w => Tryz.sizeOf42 w) (fun w S => ⟨_, Y, c9, _, (a9.trans (a6.trans (a7.trans (a8.trans g8)))), ⟨_, _, _, _, ([] : List Int), Y, Y, (by exact JN.nil _), (by (simp [hl]; done)), (by (rw [show (Zw t9).getD (Jg sa) [] = a0.2.2 from Jc a3, show (Zw t9).getD (Jg sb) [] = a4.2.2 from Jc a5]; (try simp only [JL]); first | exact Zg (by assumption) (by assumption) (by assumption) | exact Zf (by assumption) (by assumption) (by assumption) (by assumption) | (simp [QM, RG.w, Jg, *]; done)))⟩, S.drop⟩)
                     ·refine QF (Jh E Y Y fun _ B => Qx B Y ?_)
                      clear E a B; intro a E
                      refine Jx ?_
                      refine QJ E Y (fun l7 => ?_) (fun l7 => ?_)
                      ·refine Qr (Qq E Y ?_)
                       clear E a; intro a E
                       refine QB (ZU (p := [QK KS x0 v1 t9]) E S Y Y Y (jR a3 (by exact hbt _ _ a3)) lerf ?_)
                       clear E a S; rintro a _ w d0 _ g9 ⟨_, rfl, rfl, rfl⟩ S E
                       replace S : St w d0 (QK KS x0 v1 t9 :: Qh a2 (.cells #[.bool false, .int .i64 0, .slice none 0 0] 42) :: H) := S
                       replace h2 := h2.le g9
                       replace a1 := g9.2 _ _ a1
                       refine Qa E Y (YZ _) ?_
                       clear E a; intro a E
                       replace S := S.front1
                       refine Jq (JW (f := 0) E S Y Y (Tryz.sizeOf4 _) Y Y ?_)
                       clear E a S; rintro a w E S
                       replace S : St w d0 (Qh a2 (.cells #[.bool (decide (((Jd a0.2.2 : Nat) : Int) = 0)), .int .i64 0, .slice none 0 0] 42) :: _) := S
                       refine QQ (ZN (JG (QF (QS E (JB (cs := [.bool (decide (((Jd a0.2.2 : Nat) : Int) = 0)), .int .i64 0, .slice none 0 0]) E Y (Tryz.isAgg42 _) (Tryz.sizeOf42 _) (S.mem (.head _))) ?_))))
                       clear E a; intro a E
                       refine Jq (Je (us := [.bool (decide (((Jd a0.2.2 : Nat) : Int) = 0)), .int .i64 0, .slice none 0 0]) E S Y Y (Tryz.sizeOf42 _) Y (by intro u hu; simp only [List.mem_cons, List.not_mem_nil, or_false] at hu; rcases hu with rfl | rfl | rfl <;> first | exact rfl | exact rfl | exact rfl) ?_)
                       clear E a S; rintro a w E S
                       replace S : St w d0 (Qh a2 (.cells #[.bool (decide (((Jd a0.2.2 : Nat) : Int) = 0)), .int .i64 0, .slice none 0 0] 42) :: _) := S
                       refine JQ ?_
                       replace S : St w d0 (WE [] :: _) := S.empty
                       replace E : Env a 215 (([] : List Nat).map mk) _ := E
                       replace S := S.front2.front2.front2
                       exact JC (cs := [.bool (decide (((Jd a0.2.2 : Nat) : Int) = 0)), .int .i64 0, .slice none 0 0]) E S Tryz.results42 Y (fun w => Tryz.isAgg42 w) (fun w => Tryz.sizeOf42 w) (fun w S => ⟨_, Y, d0, _, (a9.trans (a6.trans (a7.trans (a8.trans g9)))), ⟨_, _, _, _, ([] : List Int), Y, Y, (by exact JN.nil _), (by (simp [hl]; done)), (by (rw [show (Zw t9).getD (Jg sa) [] = a0.2.2 from Jc a3, show (Zw t9).getD (Jg sb) [] = a4.2.2 from Jc a5]; (try simp only [JL]); first | exact Zg (by assumption) (by assumption) (by assumption) | exact Zf (by assumption) (by assumption) (by assumption) (by assumption) | (simp [QM, RG.w, Jg, *]; done)))⟩, S.drop⟩)
                      ·refine QF (Jh E Y Y fun _ B => Qx B Y ?_)
                       clear E a B; intro a E
                       refine Jx ?_
                       refine QJ E Y (fun l8 => ?_) (fun l8 => ?_)
                       ·refine Qr (Qq E Y ?_)
                        clear E a; intro a E
                        refine QB (QI (p := [QK KS x0 v1 t9]) E S Y Y Y (yp a3 (by first | assumption | omega)) lerf ?_)
                        clear E a S; rintro a d1 w d2 _ h0 ⟨_, rfl, rfl, h1⟩ S E
                        replace S : St w d2 (QK KS x0 v1 t9 :: Qh a2 (.cells #[.bool false, .int .i64 0, .slice none 0 0] 42) :: H) := S
                        replace h2 := h2.le h0
                        replace a1 := h0.2 _ _ a1
                        refine Qa E Y (UR _) ?_
                        clear E a; intro a E
                        replace S := S.front1
                        refine Jq (JW (f := 2) E S Y Y (Tryz.sizeOf22 _) (JN.one' h1) Y ?_)
                        clear E a S; rintro a w E S
                        replace S : St w d2 (Qh a2 (.cells #[.bool false, .int .i64 0, d1] 42) :: _) := S
                        refine QQ (ZN (JG (QF (QS E (JB (cs := [.bool false, .int .i64 0, d1]) E Y (Tryz.isAgg42 _) (Tryz.sizeOf42 _) (S.mem (.head _))) ?_))))
                        clear E a; intro a E
                        refine Jq (Je (us := [.bool false, .int .i64 0, d1]) E S Y Y (Tryz.sizeOf42 _) Y (by intro u hu; simp only [List.mem_cons, List.not_mem_nil, or_false] at hu; rcases hu with rfl | rfl | rfl <;> first | exact rfl | exact rfl | exact (JN.one' h1)) ?_)
                        clear E a S; rintro a w E S
                        replace S : St w d2 (Qh a2 (.cells #[.bool false, .int .i64 0, d1] 42) :: _) := S
                        refine JQ ?_
                        replace S : St w d2 (WE [] :: _) := S.empty
                        replace E : Env a 215 (([] : List Nat).map mk) _ := E
                        replace S := S.front2.front2.front2
                        exact JC (cs := [.bool false, .int .i64 0, d1]) E S Tryz.results42 Y (fun w => Tryz.isAgg42 w) (fun w => Tryz.sizeOf42 w) (fun w S => ⟨_, Y, d2, _, (a9.trans (a6.trans (a7.trans (a8.trans h0)))), ⟨_, _, _, _, Qw a0.2.2, Y, Y, (by exact h1), (by (simp [hl]; done)), (by (rw [show (Zw t9).getD (Jg sa) [] = a0.2.2 from Jc a3, show (Zw t9).getD (Jg sb) [] = a4.2.2 from Jc a5]; (try simp only [JL]); first | exact Zg (by assumption) (by assumption) (by assumption) | exact Zf (by assumption) (by assumption) (by assumption) (by assumption) | (simp [QM, RG.w, Jg, *]; done)))⟩, S.drop⟩)
                       ·refine QF (Jh E Y Y fun _ B => Qx B Y ?_)
                        clear E a B; intro a E
                        refine Jx ?_
                        refine QJ E Y (fun l9 => ?_) (fun l9 => ?_)
                        ·refine QF (Qq E Y fun _ B => yL B Y Y ?_)
                         clear E a B; intro a E
                         replace S := (S.ownNil (e := 3) (sz := 1)).made0
                         replace S := S.front2
                         replace S : St w d5 ((JA a2 42 3) [] :: _) := mkJA S
                         replace S := S.front1
                         refine QB (ZU (p := [QK KS x0 v1 t9, (JA a2 42 3) []]) E S Y Y Y (reg_Each a3 vA (by exact hbt _ _ a3)) lerf ?_)
                         clear E a S; rintro a _ w m0 _ h3 ⟨_, rfl, h4, rfl, rfl, hp_70n, hp_70m⟩ S E
                         replace S : St w m0 (QK KS x0 v1 t9 :: (JA a2 42 3) h4 :: H) := S
                         replace S := S.front1
                         have S0 := S; clear S
                         obtain ⟨n7, S⟩ := openJA S0
                         clear S0
                         replace h2 := h2.le h3
                         replace a1 := h3.2 _ _ a1
                         have hp_70l : h4.length ≤ a0.2.2.length := Qn hp_70n fun z hz => (hp_70m z).1 hz
                         refine qd (Qa E Y (UR _) fun _ B => JD B Y (Tryz.isAgg22 _) (QC (S.mem (.head _)) Y) ?_)
                         clear E a B; intro a E
                         replace S := S.front1
                         have S0 := S; clear S
                         obtain ⟨n8, h5, m1, S⟩ := S0.freezeI (by (first | omega | (rw [Ye]; omega)))
                         clear S0
                         replace h2 := h2.le h5
                         replace a1 := h5.2 _ _ a1
                         refine QB (Jm E S Y Y Y (GM m1 (by first | omega | (simp; done) | (simp; omega) | exact Nat.le_trans (Nat.le_of_eq (List.Perm.length_eq (by assumption))) (by rw [List.length_map]; exact Nat.le_trans (fl_mk _ _) (by omega)))) lerf ?_)
                         clear E a S; rintro a d3 w e5 h6 h7 S E
                         replace h2 := h2.le h6
                         replace a1 := h6.2 _ _ a1
                         refine Qa E Y (UR _) ?_
                         clear E a; intro a E
                         refine Jq (JW (f := 2) E S Y Y (Tryz.sizeOf22 _) (JN.one' h7) Y ?_)
                         clear E a S; rintro a w E S
                         replace S : St w e5 (Qh a2 (.cells #[.bool false, .int .i64 0, d3] 42) :: _) := S
                         refine QQ (ZN (JG (QF (QS E (JB (cs := [.bool false, .int .i64 0, d3]) E Y (Tryz.isAgg42 _) (Tryz.sizeOf42 _) (S.mem (.head _))) ?_))))
                         clear E a; intro a E
                         refine Jq (Je (us := [.bool false, .int .i64 0, d3]) E S Y Y (Tryz.sizeOf42 _) Y (by intro u hu; simp only [List.mem_cons, List.not_mem_nil, or_false] at hu; rcases hu with rfl | rfl | rfl <;> first | exact rfl | exact rfl | exact (JN.one' h7)) ?_)
                         clear E a S; rintro a w E S
                         replace S : St w e5 (Qh a2 (.cells #[.bool false, .int .i64 0, d3] 42) :: _) := S
                         refine JQ ?_
                         replace S : St w e5 (WE [] :: _) := S.empty
                         replace E : Env a 215 (([] : List Nat).map mk) _ := E
                         replace S := S.front2.front2.front2
                         exact JC (cs := [.bool false, .int .i64 0, d3]) E S Tryz.results42 Y (fun w => Tryz.isAgg42 w) (fun w => Tryz.sizeOf42 w) (fun w S => ⟨_, Y, e5, _, (a9.trans (a6.trans (a7.trans (a8.trans (h3.trans (h5.trans h6)))))), ⟨_, _, _, _, Vm h4, Y, Y, (by exact h7), (by (simp [hl]; done)), (by (rw [show (Zw t9).getD (Jg sa) [] = a0.2.2 from Jc a3, show (Zw t9).getD (Jg sb) [] = a4.2.2 from Jc a5]; (try simp only [JL]); first | exact Zg (by assumption) (by assumption) (by assumption) | exact Zf (by assumption) (by assumption) (by assumption) (by assumption) | (simp [QM, RG.w, Jg, *]; done)))⟩, S.drop⟩)
                        ·refine QF (Jh E Y Y fun _ B => Qx B Y ?_)
                         clear E a B; intro a E
                         refine Jx ?_
                         refine QJ E Y (fun m2 => ?_) (fun m2 => ?_)
                         ·refine Qr (Qq E Y ?_)
                          clear E a; intro a E
                          refine QB (ZU (p := [QK KS x0 v1 t9]) E S Y Y Y (reg_Pop a3) lerf ?_)
                          clear E a S; rintro a _ w b4 _ h8 ⟨_, _, rfl, b3, b5, rfl, rfl, hk_78, rfl⟩ S E
                          replace S : St w b4 (QK KS x0 v1 ((t9).set ((sa % 8).toNat) (a0.w (Ji a0.2.2 (if b5 = true then [b3] else [])))) :: Qh a2 (.cells #[.bool false, .int .i64 0, .slice none 0 0] 42) :: H) := S
                          replace h2 := h2.le h8
                          replace a1 := h8.2 _ _ a1
                          refine Qq E Y fun _ B => Qj B Y Y fun _ D => Qj D Y Y fun _ F => Qa F Y (jA _) ?_
                          clear E a B D F; intro a E
                          replace S := S.front1
                          refine Jq (JW (f := 1) E S Y Y (Tryz.sizeOf3 _) Y Y ?_)
                          clear E a S; rintro a w E S
                          replace S : St w b4 (Qh a2 (.cells #[.bool false, .int .i64 b3, .slice none 0 0] 42) :: _) := S
                          refine Qa E Y (YZ _) ?_
                          clear E a; intro a E
                          refine Jq (JW (f := 0) E S Y Y (Tryz.sizeOf4 _) Y Y ?_)
                          clear E a S; rintro a w E S
                          replace S : St w b4 (Qh a2 (.cells #[.bool b5, .int .i64 b3, .slice none 0 0] 42) :: _) := S
                          refine QQ (ZN (JG (QF (QS E (JB (cs := [.bool b5, .int .i64 b3, .slice none 0 0]) E Y (Tryz.isAgg42 _) (Tryz.sizeOf42 _) (S.mem (.head _))) ?_))))
                          clear E a; intro a E
                          refine Jq (Je (us := [.bool b5, .int .i64 b3, .slice none 0 0]) E S Y Y (Tryz.sizeOf42 _) Y (by intro u hu; simp only [List.mem_cons, List.not_mem_nil, or_false] at hu; rcases hu with rfl | rfl | rfl <;> first | exact rfl | exact rfl | exact rfl) ?_)
                          clear E a S; rintro a w E S
                          replace S : St w b4 (Qh a2 (.cells #[.bool b5, .int .i64 b3, .slice none 0 0] 42) :: _) := S
                          refine JQ ?_
                          replace S : St w b4 (WE [] :: _) := S.empty
                          replace E : Env a 215 (([] : List Nat).map mk) _ := E
                          replace S := S.front2.front2.front2
                          exact JC (cs := [.bool b5, .int .i64 b3, .slice none 0 0]) E S Tryz.results42 Y (fun w => Tryz.isAgg42 w) (fun w => Tryz.sizeOf42 w) (fun w S => ⟨_, Y, b4, _, (a9.trans (a6.trans (a7.trans (a8.trans h8)))), ⟨_, _, _, _, ([] : List Int), Y, Y, (by exact JN.nil _), (by (simp [hl]; done)), (by (rw [show (Zw t9).getD (Jg sa) [] = a0.2.2 from Jc a3, show (Zw t9).getD (Jg sb) [] = a4.2.2 from Jc a5]; (try simp only [JL]); first | exact Zg (by assumption) (by assumption) (by assumption) | exact Zf (by assumption) (by assumption) (by assumption) (by assumption) | (simp [QM, RG.w, Jg, *]; done)))⟩, S.drop⟩)
                         ·refine QF (Jh E Y Y fun _ B => Qx B Y ?_)
                          clear E a B; intro a E
                          refine Jx ?_
                          refine QJ E Y (fun m3 => ?_) (fun m3 => ?_)
                          ·refine QF (Qq E Y fun _ B => Qa B Y (jB _) fun _ D => Qz D Y Tryz.isAgg3 S.imm (Qf a1 Y) ?_)
                           clear E a B D; intro a E
                           refine QB (ZU (p := [QK KS x0 v1 t9]) E S Y Y Y (reg_PopN a3 (by exact hbt _ _ a3)) lerf ?_)
                           clear E a S; rintro a _ w h9 _ i0 ⟨_, _, rfl, i1, b0, rfl, rfl, hp_83n, hp_83s, hp_83l, rfl⟩ S E
                           replace S : St w h9 (QK KS x0 v1 ((t9).set ((sa % 8).toNat) (a0.w (Ji a0.2.2 b0))) :: Zi 3 i1 b0 :: Qh a2 (.cells #[.bool false, .int .i64 0, .slice none 0 0] 42) :: H) := S
                           replace h2 := h2.le i0
                           replace a1 := i0.2 _ _ a1
                           refine Qq E Y fun _ B => Qj B Y Y fun _ D => Qj D Y Y fun _ F => Qa F Y (UR _) ?_
                           clear E a B D F; intro a E
                           replace S := S.front1
                           have ho_84 := S.oneI
                           replace S := S.front2
                           refine Jq (JW (f := 2) E S Y Y (Tryz.sizeOf22 _) ho_84 Y ?_)
                           clear E a S; rintro a w E S
                           replace S : St w h9 (Qh a2 (.cells #[.bool false, .int .i64 0, i1] 42) :: _) := S
                           refine Qa E Y (jA _) ?_
                           clear E a; intro a E
                           refine Jq (JW (f := 1) E S Y Y (Tryz.sizeOf3 _) Y Y ?_)
                           clear E a S; rintro a w E S
                           replace S : St w h9 (Qh a2 (.cells #[.bool false, .int .i64 ((b0.length : Nat) : Int), i1] 42) :: _) := S
                           refine qd (Qa E Y (UR _) fun _ B => JD B Y (Tryz.isAgg22 _) (QC (S.mem (.head _)) Y) ?_)
                           clear E a B; intro a E
                           replace S := S.front1
                           have S0 := S; clear S
                           obtain ⟨n9, i2, m4, S⟩ := S0.freezeI (by (first | omega | (rw [Ye]; omega)))
                           clear S0
                           replace h2 := h2.le i2
                           replace a1 := i2.2 _ _ a1
                           refine QB (Jm E S Y Y Y (GM m4 (by first | omega | (simp; done) | (simp; omega) | exact Nat.le_trans (Nat.le_of_eq (List.Perm.length_eq (by assumption))) (by rw [List.length_map]; exact Nat.le_trans (fl_mk _ _) (by omega)))) lerf ?_)
                           clear E a S; rintro a d4 w e6 i3 i4 S E
                           replace h2 := h2.le i3
                           replace a1 := i3.2 _ _ a1
                           refine Qa E Y (UR _) ?_
                           clear E a; intro a E
                           refine Jq (JW (f := 2) E S Y Y (Tryz.sizeOf22 _) (JN.one' i4) Y ?_)
                           clear E a S; rintro a w E S
                           replace S : St w e6 (Qh a2 (.cells #[.bool false, .int .i64 ((b0.length : Nat) : Int), d4] 42) :: _) := S
                           refine QQ (ZN (JG (QF (QS E (JB (cs := [.bool false, .int .i64 ((b0.length : Nat) : Int), d4]) E Y (Tryz.isAgg42 _) (Tryz.sizeOf42 _) (S.mem (.head _))) ?_))))
                           clear E a; intro a E
                           refine Jq (Je (us := [.bool false, .int .i64 ((b0.length : Nat) : Int), d4]) E S Y Y (Tryz.sizeOf42 _) Y (by intro u hu; simp only [List.mem_cons, List.not_mem_nil, or_false] at hu; rcases hu with rfl | rfl | rfl <;> first | exact rfl | exact rfl | exact (JN.one' i4)) ?_)
                           clear E a S; rintro a w E S
                           replace S : St w e6 (Qh a2 (.cells #[.bool false, .int .i64 ((b0.length : Nat) : Int), d4] 42) :: _) := S
                           refine JQ ?_
                           replace S : St w e6 (WE [] :: _) := S.empty
                           replace E : Env a 215 (([] : List Nat).map mk) _ := E
                           replace S := S.front2.front2.front2
                           exact JC (cs := [.bool false, .int .i64 ((b0.length : Nat) : Int), d4]) E S Tryz.results42 Y (fun w => Tryz.isAgg42 w) (fun w => Tryz.sizeOf42 w) (fun w S => ⟨_, Y, e6, _, (a9.trans (a6.trans (a7.trans (a8.trans (i0.trans (i2.trans i3)))))), ⟨_, _, _, _, Vm b0, Y, Y, (by exact i4), (by (simp [hl]; done)), (by (rw [show (Zw t9).getD (Jg sa) [] = a0.2.2 from Jc a3, show (Zw t9).getD (Jg sb) [] = a4.2.2 from Jc a5]; (try simp only [JL]); first | exact Zg (by assumption) (by assumption) (by assumption) | exact Zf (by assumption) (by assumption) (by assumption) (by assumption) | (simp [QM, RG.w, Jg, *]; done)))⟩, S.drop⟩)
                          ·refine QF (Jh E Y Y fun _ B => Qx B Y ?_)
                           clear E a B; intro a E
                           refine Jx ?_
                           refine QJ E Y (fun m5 => ?_) (fun m5 => ?_)
                           ·refine Qr (JR 2 E Y fun _ B => Qa B Y (US _) fun _ D => Qz D Y Tryz.isAgg22 S.imm (Qf a1 Y) ?_)
                            clear E a B D; intro a E
                            refine QB (QI (p := []) E S Y Y Y (yB h2 (by first | assumption | omega)) lerf ?_)
                            clear E a S; rintro a _ w e7 _ m6 ⟨j1, rfl, rfl, o0⟩ S E
                            replace S : St w e7 (YO KS x0 j1 :: QK KS x0 v1 t9 :: Qh a2 (.cells #[.bool false, .int .i64 0, .slice none 0 0] 42) :: H) := S
                            refine QS E (Qb E Y Y) ?_
                            clear E a; intro a E
                            replace S := S.front1
                            refine Jq (VD (x' := j1) E S Y Y (Tryz.sizeOf55 _) b1 hkp_8 ?_)
                            clear E a S; rintro a w E S
                            refine QQ (ZN (JG (QF (QS E (JB (cs := [.bool false, .int .i64 0, .slice none 0 0]) E Y (Tryz.isAgg42 _) (Tryz.sizeOf42 _) (S.mem (.tail _ (.head _)))) ?_))))
                            clear E a; intro a E
                            replace S := S.front1
                            refine Jq (Je (us := [.bool false, .int .i64 0, .slice none 0 0]) E S Y Y (Tryz.sizeOf42 _) Y (by intro u hu; simp only [List.mem_cons, List.not_mem_nil, or_false] at hu; rcases hu with rfl | rfl | rfl <;> first | exact rfl | exact rfl | exact rfl) ?_)
                            clear E a S; rintro a w E S
                            replace S : St w e7 (Qh a2 (.cells #[.bool false, .int .i64 0, .slice none 0 0] 42) :: _) := S
                            refine JQ ?_
                            replace S : St w e7 (WE [] :: _) := S.empty
                            replace E : Env a 215 (([] : List Nat).map mk) _ := E
                            replace S := S.front2.front2.front2
                            exact JC (cs := [.bool false, .int .i64 0, .slice none 0 0]) E S Tryz.results42 Y (fun w => Tryz.isAgg42 w) (fun w => Tryz.sizeOf42 w) (fun w S => ⟨_, Y, e7, _, (a9.trans (a6.trans (a7.trans (a8.trans m6)))), ⟨_, _, _, _, ([] : List Int), Y, Y, (by exact JN.nil _), (by (simp [hl]; done)), (by (rw [show (Zw t9).getD (Jg sa) [] = a0.2.2 from Jc a3, show (Zw t9).getD (Jg sb) [] = a4.2.2 from Jc a5]; (try simp only [JL]); first | exact Zg (by assumption) (by assumption) (by assumption) | exact Zf (by assumption) (by assumption) (by assumption) (by assumption) | (simp [QM, RG.w, Jg, *]; done)))⟩, S.drop⟩)
                           ·refine J_y (QS E (JB (cs := [.bool false, .int .i64 0, .slice none 0 0]) E Y (Tryz.isAgg42 _) (Tryz.sizeOf42 _) (S.mem (.tail _ (.head _)))) ?_)
                            clear E a; intro a E
                            replace S := S.front1
                            refine Jq (Je (us := [.bool false, .int .i64 0, .slice none 0 0]) E S Y Y (Tryz.sizeOf42 _) Y (by intro u hu; simp only [List.mem_cons, List.not_mem_nil, or_false] at hu; rcases hu with rfl | rfl | rfl <;> first | exact rfl | exact rfl | exact rfl) ?_)
                            clear E a S; rintro a w E S
                            replace S : St w d5 (Qh a2 (.cells #[.bool false, .int .i64 0, .slice none 0 0] 42) :: _) := S
                            refine JQ ?_
                            replace S : St w d5 (WE [] :: _) := S.empty
                            replace E : Env a 215 (([] : List Nat).map mk) _ := E
                            replace S := S.front2.front2.front2
                            exact JC (cs := [.bool false, .int .i64 0, .slice none 0 0]) E S Tryz.results42 Y (fun w => Tryz.isAgg42 w) (fun w => Tryz.sizeOf42 w) (fun w S => ⟨_, Y, d5, _, (a9.trans (a6.trans (a7.trans a8))), ⟨_, _, _, _, ([] : List Int), Y, Y, (by exact JN.nil _), (by (simp [hl]; done)), (by (rw [show (Zw t9).getD (Jg sa) [] = a0.2.2 from Jc a3, show (Zw t9).getD (Jg sb) [] = a4.2.2 from Jc a5]; (try simp only [JL]); first | exact Zg (by assumption) (by assumption) (by assumption) | exact Zf (by assumption) (by assumption) (by assumption) (by assumption) | (simp [QM, RG.w, Jg, *]; done)))⟩, S.drop⟩)
theorem UG {M : Hp} {x0 : Bool} {v1 : Value} {l1 : List UK} (h1 : JN 6 yq M v1 l1) (hs1 : l1.length ≤ 1000) (hs2 : ∀ s ∈ l1, s.2.2.2.2.2.length ≤ 1000) :
  Sp Tryz.prog (.func (.func 24) #[] #[]) M [.bool x0, v1] [] (fun r M' C' => ∃ u_ w_ an_ ls_, C' = [] ∧ r = .tuple #[u_, w_] ∧ (JN 3 yX M' u_ an_) ∧ (zz M' w_ ls_) ∧ (VG l1 an_ ls_)) := by
 refine Qu Tryz.func24 Y Tryz.ntmps24 Y Tryz.call24 ?_
 intro a w M1 H hM1 S E
 replace h1 := h1.le JF hM1
 have b1 := h1.bound
 refine QF (JR 2 E Y fun _ B => QZ (Qx B Y fun _ C => VM (Qx C Y ?_)))
 clear E a B C; intro a E
 refine VJ ?_
 replace S := nilRegs KS x0 S
 refine Jb (γ := Nat) (fun (k : Nat) a w => ∃ (a2 : Hp) (t6 : List RG) (u6 : Value), Hp.le M1 a2 ∧ St w a2 (QK KS x0 u6 t6 :: H) ∧ Env a 51 [] [(0, .bool x0), (1, v1), (6, u6), (7, .int .i64 ((k : Nat) : Int))] ∧ (k ≤ 8) ∧ (t6.length = k) ∧ (∀ y ∈ t6, y.2.2 = [])) (fun k => 8 - k) 0 ⟨M1, _, _, lerf, S, E.keep ⟨Y, Y, Y, Y, trivial⟩, by ((try clear S); (try clear E); first | assumption | omega | rfl | (simp; done) | (simp_all; done) | (simp [List.take_add_one, *]; done) | grind [List.take_add_one]), (by rfl), (by simp)⟩ ?_
 try clear E
 try clear S
 try clear a
 try clear w
 rintro k a w ⟨a2, t6, u6, a6, S, E, e9, f0, f1⟩
 replace h1 := h1.le JF a6
 refine J_p (Qq E Y fun _ B => ZG B Y Y ?_)
 clear E a B; intro a E
 refine Jx ?_
 refine QJ E Y (fun d1 => ?_) (fun d1 => ?_)
 ·refine Ja (JG (Za (Jw (Qr (JR 2 E Y ?_)))))
  clear E a; intro a E
  refine QB (QI (p := []) E S Y Y Y (zO (JN.nil _) (by first | assumption | omega | (simp; done))) lerf ?_)
  clear E a S; rintro a _ w c1 _ c2 ⟨a7, rfl, rfl, f2⟩ S E
  replace S : St w c1 (YO KS x0 a7 :: QK KS x0 u6 t6 :: H) := S
  replace h1 := h1.le JF c2
  refine QB (qU (vs := [Zx KS x0 a7]) E S Y T62 Y Y Y (by intro u hu; simp only [List.mem_cons, List.not_mem_nil, or_false] at hu; rw [hu]; exact jj _ _ _) ?_)
  clear E a S; rintro a w f3 E S
  replace S := S.front2.front2.front2
  refine QB (yQ (K := KS) (x' := a7) E S Y Y Y T62 (by (first | omega | (simp only [List.length_append, List.length_take, List.length_cons, List.length_nil]; omega))) (by (first | omega | (simp only [List.length_append, List.length_take, List.length_cons, List.length_nil]; omega))) ?_)
  clear E a S; rintro a w f4 E S
  refine Qx E Y fun _ B => J_k (Qq B Y fun _ C => QY (m := ((k + 1 : Nat) : Int)) C Y Y fun _ D => Qx D Y ?_)
  clear E a B C D; intro a E
  refine Jx ?_
  exact ⟨k + 1, ⟨c1, _, _, (a6.trans c2), S, E.keep ⟨Y, Y, Y, Y, trivial⟩, by ((try clear S); (try clear E); first | assumption | omega | rfl | (simp; done) | (simp_all; done) | (simp [List.take_add_one, *]; done) | grind [List.take_add_one]), (by simp [*]), (by intro y hy; rcases List.mem_append.1 hy with h9 | h9; (exact (by assumption : ∀ y ∈ t6, y.2.2 = []) y h9); (rw [List.mem_singleton.1 h9]; assumption))⟩, by omega⟩
 ·refine Um (Qx E Y fun _ B => VM (Qq B Y fun _ C => Jl C Y T33 h1.len fun _ D => Qq D Y ?_))
  clear E a B C D; intro a E
  refine VJ ?_
  replace S : St w a2 (Jk 42 3 (.slice none 0 0) ([] : List Gk).length [] :: _) := S.ownNil
  have d2 : JX yX 3 a2 ([] : List Gk) [] := JX.nil
  replace S := S.front1.front1.front1
  refine Jb (γ := Nat) (fun (k : Nat) a w => ∃ (a1 : Hp) (t6 : List RG) (an8 : List Gk) (u8 : Value) (xs8 : List Value), Hp.le a2 a1 ∧ St w a1 (QK KS x0 u6 t6 :: Jk 42 3 u8 an8.length xs8 :: H) ∧ Env a 51 [] [(0, .bool x0), (6, u6), (8, u8), (23, v1), (24, .int .i64 (((l1).length : Nat) : Int)), (25, .int .i64 ((k : Nat) : Int))] ∧ (k ≤ (l1).length) ∧ (VG (l1.take k) an8 (Zw t6)) ∧ JX yX 3 a1 an8 xs8) (fun k => ((l1).length) - k) 0 ⟨a2, _, _, _, _, lerf, S, E.keep ⟨Y, Y, Y, Y, Y, Y, trivial⟩, by ((try clear S); (try clear E); first | assumption | omega | rfl | (simp; done) | (simp_all; done) | (simp [List.take_add_one, *]; done) | grind [List.take_add_one]), (by rw [show Zw t6 = List.replicate 8 [] from lsT_new (by omega) (by assumption)]; exact VG.nil), d2⟩ ?_
  try clear E
  try clear S
  try clear a
  try clear w
  rintro k a w ⟨a1, t6, an8, u8, xs8, a8, S, E, f5, f6, hr8⟩
  replace h1 := h1.le JF a8
  have hpl : VG (l1.take k) an8 (Zw t6) := by assumption
  have hbt := jV hpl hs1 hs2
  have hl6 : t6.length = 8 := (List.length_map (f := fun x : RG => x.2.2)).symm.trans (Yv hpl).2.1
  have ha8 := (Yv hpl).2.2
  rw [List.length_take] at ha8
  refine QF (ZG E Y Y ?_)
  clear E a; intro a E
  refine ZB ?_
  refine QJ E Y (fun d3 => ?_) (fun d3 => ?_)
  ·refine zC ?_
   obtain ⟨a0, d4⟩ : ∃ x, (l1)[k]? = some x := ⟨_, List.getElem?_eq_getElem (by first | omega | (simp; done) | (simp; omega) | (simp_all; omega))⟩
   obtain ⟨f7, a9, d5, d6, a3⟩ := RdSS.at h1 d4
   have f8 := a3.bound
   refine Yh E Y Y T33 d5 Y fun _ B => Wa (cs := [.int .i64 a0.1, .int .i64 a0.2.1, .int .i64 a0.2.2.1, .int .i64 a0.2.2.2.1, .int .i64 a0.2.2.2.2.1, a9]) B Y (Tryz.isAgg40 _) (Tryz.sizeOf40 _) S.imm d6 ?_
   clear E a B; intro a E
   refine QB (ZL (cs := #[.int .i64 0, .int .i64 0, .int .i64 0, .int .i64 0, .int .i64 0, .slice none 0 0]) E S Y Tryz.zeroValue40 Y ?_)
   clear E a S; rintro a w d7 E S
   refine Jq (Je (us := [.int .i64 a0.1, .int .i64 a0.2.1, .int .i64 a0.2.2.1, .int .i64 a0.2.2.2.1, .int .i64 a0.2.2.2.2.1, a9]) E S Y Y (Tryz.sizeOf40 _) Y (by intro u hu; simp only [List.mem_cons, List.not_mem_nil, or_false] at hu; rcases hu with rfl | rfl | rfl | rfl | rfl | rfl <;> first | exact rfl | exact rfl | exact rfl | exact rfl | exact rfl | exact (JN.one' a3)) ?_)
   clear E a S; rintro a w E S
   replace S : St w a1 (Qh d7 (.cells #[.int .i64 a0.1, .int .i64 a0.2.1, .int .i64 a0.2.2.1, .int .i64 a0.2.2.2.1, .int .i64 a0.2.2.2.2.1, a9] 40) :: _) := S
   have S0 := S; clear S
   obtain ⟨f9, b0, d8, S⟩ := S0.freezeB
   clear S0
   replace hr8 := hr8.le Js b0
   replace a3 := a3.le b0
   refine qd (JR 3 E Y fun _ B => Ga B Y (Tryz.isAgg40 _) (Tryz.sizeOf40 _) S.imm d8 ?_)
   clear E a B; intro a E
   refine QB (QI (p := [QK KS x0 u6 t6]) E S Y Y Y (impl_set a3 (by first | assumption | omega) (by first | assumption | omega) (by first | assumption | omega | (have h9 := hs2 _ (List.mem_of_getElem? (by assumption)); omega))) lerf ?_)
   clear E a S; rintro a _ w d9 _ c3 ⟨t_19, is_20, n_21, e0, al_23, rfl, rfl, e1, g0, g1⟩ S E
   replace S : St w d9 (QK KS x0 u6 t_19 :: Jk 42 3 u8 an8.length xs8 :: H) := S
   replace hr8 := hr8.le Js c3
   refine QB (Wh (R := yX) (cs := [.bool is_20, .int .i64 n_21, e0]) (x0 := (is_20, n_21, al_23)) Js E S Y T35 Y Y Y ⟨_, Y, e1⟩ ?_)
   clear E a S; rintro a g2 w e2 c4 e3 S E
   replace hr8 := hr8.le Js c4
   replace S := S.front1
   refine QB (Wi (R := yX) (zs := an8) (ys := [(is_20, n_21, al_23)]) E S hr8 Y Y Y T35 e3 vh (by (first | omega | (simp only [List.length_append, List.length_take, List.length_cons, List.length_nil]; omega))) (by (first | omega | (simp only [List.length_append, List.length_take, List.length_cons, List.length_nil]; omega))) ?_)
   clear E a S; rintro a w g3 g4 E e4 S
   refine Qx E Y fun _ B => J_k (QY (m := ((k + 1 : Nat) : Int)) B Y Y fun _ C => Qq C Y ?_)
   clear E a B C; intro a E
   refine Jx ?_
   replace S := S.front1.front1.front1
   exact ⟨k + 1, ⟨e2, _, _, _, _, (a8.trans (b0.trans (c3.trans c4))), S, E.keep ⟨Y, Y, Y, Y, Y, Y, trivial⟩, by ((try clear S); (try clear E); first | assumption | omega | rfl | (simp; done) | (simp_all; done) | (simp [List.take_add_one, *]; done) | grind [List.take_add_one]), (by exact vH (by assumption) (by assumption) (by assumption)), e4⟩, by omega⟩
  ·have hbt := jV hpl hs1 hs2
   refine Um (Qx E Y fun _ B => VM (Qq B Y fun _ C => Jl C Y T62 (lenR S) fun _ D => Qq D Y ?_))
   clear E a B C D; intro a E
   refine VJ ?_
   replace S : St w a1 (Jk 22 1 (.slice none 0 0) ([] : List (List Int)).length [] :: _) := S.ownNil
   have b2 : JX (vv 1 Wn) 1 a1 ([] : List (List Int)) [] := JX.nil
   have hre : ([] : List (List Int)) = (Zw t6).take 0 := by first | (simp; done) | exact zU (Yv (by assumption)).1 (by assumption)
   replace S := S.reR hre
   replace b2 := b2.eq hre
   clear hre
   refine Jb (γ := Nat) (fun (m : Nat) a w => ∃ (a4 : Hp) (u11 : Value) (xs11 : List Value), Hp.le a1 a4 ∧ St w a4 (Jk 22 1 u11 ((Zw t6).take m).length xs11 :: QK KS x0 u6 t6 :: Jk 42 3 u8 an8.length xs8 :: H) ∧ Env a 51 [] [(8, u8), (11, u11), (37, u6), (38, .int .i64 (((t6).length : Nat) : Int)), (39, .int .i64 ((m : Nat) : Int))] ∧ (m ≤ (t6).length) ∧ JX (vv 1 Wn) 1 a4 ((Zw t6).take m) xs11) (fun m => ((t6).length) - m) 0 ⟨a1, _, _, lerf, S, E.keep ⟨Y, Y, Y, Y, Y, trivial⟩, by ((try clear S); (try clear E); first | assumption | omega | rfl | (simp; done) | (simp_all; done) | (simp [List.take_add_one, *]; done) | grind [List.take_add_one]), b2⟩ ?_
   try clear E
   try clear S
   try clear a
   try clear w
   rintro m a w ⟨a4, u11, xs11, b3, S, E, g5, hr11⟩
   replace hr8 := hr8.le Js b3
   have hml : (Zw t6).length = t6.length := List.length_map ..
   refine QF (ZG E Y Y ?_)
   clear E a; intro a E
   refine ZB ?_
   refine QJ E Y (fun e5 => ?_) (fun e5 => ?_)
   ·refine zC ?_
    replace S := S.front1
    have hkp_36 : m < (t6).length := by omega
    obtain ⟨g6, c5⟩ := ptrR S hkp_36
    refine Yh E Y Y T62 c5 Y ?_
    clear E a; intro a E
    obtain ⟨a5, b4⟩ : ∃ x : RG, (t6)[m]? = some x := ⟨_, List.getElem?_eq_getElem hkp_36⟩
    have hbx_37 := hbt _ _ b4
    refine JD E Y (Tryz.isAgg55 _) (Gc S c5 b4) fun _ B => Qx B Y fun _ C => qd (JR 2 C Y ?_)
    clear E a B C; intro a E
    refine QB (QI (p := [QK KS x0 u6 t6]) E S Y Y Y (yp b4 (by first | assumption | omega)) lerf ?_)
    clear E a S; rintro a e6 w e7 _ b5 ⟨_, rfl, rfl, c6⟩ S E
    replace S : St w e7 (QK KS x0 u6 t6 :: Jk 22 1 u11 ((Zw t6).take m).length xs11 :: Jk 42 3 u8 an8.length xs8 :: H) := S
    replace hr8 := hr8.le Js b5
    replace hr11 := hr11.le (QH QA) b5
    refine QB (UI (R := vv 1 Wn) (vs := [e6]) (xs := [Qw a5.2.2]) (QH QA) E S Y T36 Y Y Y (by intro u hu; simp only [List.mem_cons, List.not_mem_nil, or_false] at hu; rcases hu with rfl <;> first | exact Zh.one c6 | rfl) Y (ZR (R := vv 1 Wn) (Zh.row c6) jP) ?_)
    clear E a S; rintro a e8 w c7 b6 b7 S E
    replace b7 : zz c7 e8 [Qw a5.2.2] := b7
    replace hr8 := hr8.le Js b6
    replace hr11 := hr11.le (QH QA) b6
    replace S := S.front1
    refine QB (Wi (R := (vv 1 Wn)) (zs := (Zw t6).take m) (ys := [Qw a5.2.2]) E S hr11 Y Y Y T36 b7 one_RSl (by (first | omega | (simp only [List.length_append, List.length_take, List.length_cons, List.length_nil]; omega))) (by (first | omega | (simp only [List.length_append, List.length_take, List.length_cons, List.length_nil]; omega))) ?_)
    clear E a S; rintro a w g7 g8 E b8 S
    refine Qx E Y fun _ B => J_k (QY (m := ((m + 1 : Nat) : Int)) B Y Y fun _ C => Qq C Y ?_)
    clear E a B C; intro a E
    refine Jx ?_
    have hre : ((Zw t6).take m) ++ [Qw a5.2.2] = (Zw t6).take (m + 1) := by first | (simp; done) | exact zU (Yv (by assumption)).1 (by assumption)
    replace S := S.reR hre
    replace b8 := b8.eq hre
    clear hre
    exact ⟨m + 1, ⟨c7, _, _, (b3.trans (b5.trans b6)), S, E.keep ⟨Y, Y, Y, Y, Y, trivial⟩, by ((try clear S); (try clear E); first | assumption | omega | rfl | (simp; done) | (simp_all; done) | (simp [List.take_add_one, *]; done) | grind [List.take_add_one]), b8⟩, by omega⟩
   ·refine Um (JR 4 E Y ?_)
    clear E a; intro a E
    refine JQ ?_
    replace S := S.front2
    have S0 := S; clear S
    obtain ⟨g9, c8, b9, S⟩ := S0.freezeR hr8 Js (by (first | omega | (simp only [List.length_take]; omega)))
    clear S0
    replace hr11 := hr11.le (QH QA) c8
    have S0 := S; clear S
    obtain ⟨c9, d0, c0, S⟩ := S0.freezeR hr11 (QH QA) (by (first | omega | (simp only [List.length_take]; omega)))
    clear S0
    replace c0 : zz c9 u11 ((Zw t6).take m) := c0
    replace b9 := b9.le Js d0
    replace S := S.drop
    exact Uh E Tryz.results24 Y Y ⟨_, Y, c9, _, (a6.trans (a8.trans (b3.trans (c8.trans d0)))), ⟨_, _, an8, ((Zw t6).take m), Y, Y, (by exact b9), (by exact c0), (by (rw [List.take_of_length_le (l := Zw t6) (by omega)]; have h9 := hpl; rw [List.take_of_length_le (by omega)] at h9; exact h9))⟩, S⟩
theorem laws_eq {M : Hp} {v0 v1 : Value} {l0 l1 : List Int} (h0 : Zh M v0 l0) (h1 : Zh M v1 l1) :
  Pu Tryz.prog (.func (.func 19) #[] #[]) M [v0, v1] (fun r M' => r = .bool (decide (l0 = l1))) := by
 refine Jt Tryz.func19 Y Tryz.ntmps19 Y Tryz.call19 ?_
 intro a w M1 H hM1 S E
 replace h0 := h0.le hM1
 replace h1 := h1.le hM1
 have b0 := h0.bound
 have b1 := h1.bound
 refine QF (Qx E Y fun _ B => VM (Qq B Y fun _ D => Jl D Y JE h0.len fun _ F => Qq F Y fun _ G => Jl G Y JE h1.len fun _ I => WZ I Y Y ?_))
 clear E a B D F G I; intro a E
 refine Jx ?_
 refine QJ E Y (fun a2 => ?_) (fun a2 => ?_)
 ·refine QF (Qx E Y ?_)
  clear E a; intro a E
  refine WF ?_
  exact Qk E Tryz.results19 Y ⟨_, Y, M1, lerf, (bF (by ((try clear S); (try clear E); first | assumption | omega | rfl | (simp; done) | (simp_all; done) | (simp [List.take_add_one, *]; done) | grind [List.take_add_one]))), S⟩
 ·refine J_q (Qq E Y fun _ B => Jl B Y JE h0.len fun _ D => Qq D Y ?_)
  clear E a B D; intro a E
  refine VJ ?_
  refine Jb (γ := Nat) (fun (k : Nat) a w => ∃ (a0 : Hp), Hp.le M1 a0 ∧ St w a0 (H) ∧ Env a 26 [] [(0, v0), (1, v1), (12, .int .i64 (((l0).length : Nat) : Int)), (13, .int .i64 ((k : Nat) : Int))] ∧ (k ≤ (l0).length) ∧ (l0.length = l1.length) ∧ (l0.take k = l1.take k)) (fun k => ((l0).length) - k) 0 ⟨M1, lerf, S, E.keep ⟨Y, Y, Y, Y, trivial⟩, by ((try clear S); (try clear E); first | assumption | omega | rfl | (simp; done) | (simp_all; done) | (simp [List.take_add_one, *]; done) | grind [List.take_add_one]), by ((try clear S); (try clear E); first | assumption | omega | rfl | (simp; done) | (simp_all; done) | (simp [List.take_add_one, *]; done) | grind [List.take_add_one]), by ((try clear S); (try clear E); first | assumption | omega | rfl | (simp; done) | (simp_all; done) | (simp [List.take_add_one, *]; done) | grind [List.take_add_one])⟩ ?_
  try clear E
  try clear S
  try clear a
  try clear w
  rintro k a w ⟨a0, a1, S, E, b3, b4, b5⟩
  replace h0 := h0.le a1
  replace h1 := h1.le a1
  refine QF (ZG E Y Y ?_)
  clear E a; intro a E
  refine ZB ?_
  refine QJ E Y (fun a3 => ?_) (fun a3 => ?_)
  ·refine zC (JR 2 E Y ?_)
   clear E a; intro a E
   refine ZB ?_
   replace S := S.mono_heap (w' := World.drew _) rfl
   refine QN (C := fun x w => agree a0 w) (bf := (fun i => [])) [0, 1, 2, 3, 4, 5, 6, 7, 8] [0, 1, 2, 3, 4, 5, 6, 7, 8] Tryz.mixed (by kernel_rfl) (fun x hq => S.imm) ?_
   refine Qo E Y (fun w hC => (Qi E Y)) fun _ B => Qo B Y (fun w hC => (Qi B Y)) ?_
   clear E a B; intro a E
   obtain ⟨b6, a4⟩ : ∃ x, (l0)[k]? = some x := ⟨_, List.getElem?_eq_getElem (by first | omega | (simp; done) | (simp; omega) | (simp_all; omega))⟩
   obtain ⟨b7, a5, a6⟩ := h0.at a4
   refine Qo E Y (fun w hC => (Yj E Y Y JE a5 Y)) fun _ B => Qo B Y (fun w hC => (QG B Y Tryz.isAgg3 hC a6)) fun _ D => Qo D Y (fun w hC => (Qi D Y)) fun _ F => Qo F Y (fun w hC => (Qi F Y)) ?_
   clear E a B D F; intro a E
   obtain ⟨b8, a7⟩ : ∃ x, (l1)[k]? = some x := ⟨_, List.getElem?_eq_getElem (by first | omega | (simp; done) | (simp; omega) | (simp_all; omega))⟩
   obtain ⟨b9, a8, a9⟩ := h1.at a7
   refine Qo E Y (fun w hC => (Yj E Y Y JE a8 Y)) fun _ B => Qo B Y (fun w hC => (QG B Y Tryz.isAgg3 hC a9)) fun _ D => Qo D Y (fun w hC => (R_neq D Y Y)) ?_
   clear E a B D; intro a E
   refine Jv (Ju ?_)
   refine JG ?_
   refine QJ E Y (fun b2 => ?_) (fun b2 => ?_)
   ·refine QF (Qx E Y ?_)
    clear E a; intro a E
    refine J_s (jd (qW ?_))
    exact Qk E Tryz.results19 Y ⟨_, Y, a0, a1, (bF (by ((try clear S); (try clear E); first | assumption | omega | rfl | (simp; done) | (simp_all; done) | (simp [List.take_add_one, *]; done) | grind [List.take_add_one]))), S⟩
   ·refine qc (QY (m := ((k + 1 : Nat) : Int)) E Y Y fun _ B => Qq B Y ?_)
    clear E a B; intro a E
    refine Jx ?_
    exact ⟨k + 1, ⟨a0, a1, S, E.keep ⟨Y, Y, Y, Y, trivial⟩, by ((try clear S); (try clear E); first | assumption | omega | rfl | (simp; done) | (simp_all; done) | (simp [List.take_add_one, *]; done) | grind [List.take_add_one]), by ((try clear S); (try clear E); first | assumption | omega | rfl | (simp; done) | (simp_all; done) | (simp [List.take_add_one, *]; done) | grind [List.take_add_one]), by ((try clear S); (try clear E); first | assumption | omega | rfl | (simp; done) | (simp_all; done) | (simp [List.take_add_one, *]; done) | grind [List.take_add_one])⟩, by omega⟩
  ·refine Um (Qx E Y ?_)
   clear E a; intro a E
   refine JQ ?_
   exact Qk E Tryz.results19 Y ⟨_, Y, a0, a1, (bT (by ((try clear S); (try clear E); first | assumption | omega | rfl | (simp; done) | (simp_all; done) | (simp [List.take_add_one, *]; done) | grind [List.take_add_one]))), S⟩
theorem yJ {M : Hp} {v0 : Value} {l0 : List UK} (h0 : JN 6 yq M v0 l0)  :
  Pu Tryz.prog (.func (.func 25) #[] #[]) M [v0] (fun r M' => r = .bool (decide (l0.length ≤ 200 ∧ ∀ s ∈ l0, s.2.2.2.2.2.length ≤ 100))) := by
 refine Jt Tryz.func25 Y Tryz.ntmps25 Y Tryz.call25 ?_
 intro a w M1 H hM1 S E
 replace h0 := h0.le JF hM1
 have b0 := h0.bound
 refine QF (Qx E Y fun _ B => VM (Qq B Y fun _ C => Jl C Y T33 h0.len fun _ D => Qq D Y ?_))
 clear E a B C D; intro a E
 refine VJ ?_
 refine Jb (γ := Nat) (fun (k : Nat) a w => ∃ (a1 : Hp), Hp.le M1 a1 ∧ St w a1 (H) ∧ Env a 19 [] [(0, v0), (5, v0), (6, .int .i64 (((l0).length : Nat) : Int)), (7, .int .i64 ((k : Nat) : Int))] ∧ (k ≤ (l0).length) ∧ (∀ s ∈ l0.take k, s.2.2.2.2.2.length ≤ 100)) (fun k => ((l0).length) - k) 0 ⟨M1, lerf, S, E.keep ⟨Y, Y, Y, Y, trivial⟩, by ((try clear S); (try clear E); first | assumption | omega | rfl | (simp; done) | (simp_all; done) | (simp [List.take_add_one, *]; done) | grind [List.take_add_one]), (by simp)⟩ ?_
 try clear E
 try clear S
 try clear a
 try clear w
 rintro k a w ⟨a1, a3, S, E, b5, b6⟩
 replace h0 := h0.le JF a3
 refine QF (ZG E Y Y ?_)
 clear E a; intro a E
 refine ZB ?_
 refine QJ E Y (fun a7 => ?_) (fun a7 => ?_)
 ·refine zC ?_
  obtain ⟨a0, a8⟩ : ∃ x, (l0)[k]? = some x := ⟨_, List.getElem?_eq_getElem (by first | omega | (simp; done) | (simp; omega) | (simp_all; omega))⟩
  obtain ⟨b7, a5, a9, b1, a2⟩ := RdSS.at h0 a8
  have b8 := a2.bound
  refine Yh E Y Y T33 a9 Y fun _ B => Wa (cs := [.int .i64 a0.1, .int .i64 a0.2.1, .int .i64 a0.2.2.1, .int .i64 a0.2.2.2.1, .int .i64 a0.2.2.2.2.1, a5]) B Y (Tryz.isAgg40 _) (Tryz.sizeOf40 _) S.imm b1 ?_
  clear E a B; intro a E
  refine QB (ZL (cs := #[.int .i64 0, .int .i64 0, .int .i64 0, .int .i64 0, .int .i64 0, .slice none 0 0]) E S Y Tryz.zeroValue40 Y ?_)
  clear E a S; rintro a w b2 E S
  refine Jq (Je (us := [.int .i64 a0.1, .int .i64 a0.2.1, .int .i64 a0.2.2.1, .int .i64 a0.2.2.2.1, .int .i64 a0.2.2.2.2.1, a5]) E S Y Y (Tryz.sizeOf40 _) Y (by intro u hu; simp only [List.mem_cons, List.not_mem_nil, or_false] at hu; rcases hu with rfl | rfl | rfl | rfl | rfl | rfl <;> first | exact rfl | exact rfl | exact rfl | exact rfl | exact rfl | exact (JN.one' a2)) ?_)
  clear E a S; rintro a w E S
  replace S : St w a1 (Qh b2 (.cells #[.int .i64 a0.1, .int .i64 a0.2.1, .int .i64 a0.2.2.1, .int .i64 a0.2.2.2.1, .int .i64 a0.2.2.2.2.1, a5] 40) :: _) := S
  have S0 := S; clear S
  obtain ⟨a6, a4, b3, S⟩ := S0.freezeB
  clear S0
  replace h0 := h0.le JF a4
  replace a2 := a2.le a4
  refine QZ (Qa E Y (US _) fun _ B => Qz B Y Tryz.isAgg22 S.imm (Qf b3 Y) fun _ C => Jl C Y JE a2.len fun _ D => Ws D Y Y ?_)
  clear E a B C D; intro a E
  refine Jx ?_
  refine QJ E Y (fun b4 => ?_) (fun b4 => ?_)
  ·refine QF (Qx E Y ?_)
   clear E a; intro a E
   refine J_s (jd (qW ?_))
   exact Qk E Tryz.results25 Y ⟨_, Y, a6, (a3.trans a4), (bF (by (intro h9; have h8 := h9.2 _ (List.mem_of_getElem? (by assumption)); omega))), S⟩
  ·refine qc (QY (m := ((k + 1 : Nat) : Int)) E Y Y fun _ B => Qq B Y ?_)
   clear E a B; intro a E
   refine Jx ?_
   exact ⟨k + 1, ⟨a6, (a3.trans a4), S, E.keep ⟨Y, Y, Y, Y, trivial⟩, by ((try clear S); (try clear E); first | assumption | omega | rfl | (simp; done) | (simp_all; done) | (simp [List.take_add_one, *]; done) | grind [List.take_add_one]), (by refine tkA (by assumption) (by assumption) ?_; omega)⟩, by omega⟩
 ·refine Um (Qq E Y fun _ B => Jl B Y T33 h0.len fun _ C => zV C Y Y fun _ D => Qx D Y ?_)
  clear E a B C D; intro a E
  refine JQ ?_
  exact Qk E Tryz.results25 Y ⟨_, Y, a1, a3, (cgB (by (refine decide_eq_decide.2 ⟨fun h => ⟨by omega, ?_⟩, fun h => by omega⟩; exact tkE (by assumption) (by omega)))), S⟩
theorem yI {M : Hp} {v0 : Value} {l0 : List UK} (h0 : JN 6 yq M v0 l0) (hs1 : l0.length ≤ 1000)  :
  Pu Tryz.prog (.func (.func 28) #[] #[]) M [v0] (fun r M' => JN 6 yq M' r l0) := by
 refine Jt Tryz.func28 Y Tryz.ntmps28 Y Tryz.call28 ?_
 intro a w M1 H hM1 S E
 replace h0 := h0.le JF hM1
 have b0 := h0.bound
 refine QF (Qx E Y fun _ B => QZ (Qx B Y fun _ C => VM (Qq C Y fun _ D => Jl D Y T33 h0.len fun _ F => Qq F Y ?_)))
 clear E a B C D F; intro a E
 refine VJ ?_
 replace S : St w M1 (Jk 67 6 (.slice none 0 0) ([] : List UK).length [] :: _) := S.ownNil
 have a4 : JX yq 6 M1 ([] : List UK) [] := JX.nil
 have hre : ([] : List UK) = l0.take 0 := by first | (simp; done) | exact (Gm (by assumption)).1.symm | (rw [List.take_add_one]; simp_all; done)
 replace S := S.reR hre
 replace a4 := a4.eq hre
 clear hre
 refine Jb (γ := Nat) (fun (k : Nat) a w => ∃ (a1 : Hp) (u3 : Value) (xs3 : List Value), Hp.le M1 a1 ∧ St w a1 (Jk 67 6 u3 (l0.take k).length xs3 :: H) ∧ Env a 18 [] [(3, u3), (6, v0), (7, .int .i64 (((l0).length : Nat) : Int)), (8, .int .i64 ((k : Nat) : Int))] ∧ (k ≤ (l0).length) ∧ JX yq 6 a1 (l0.take k) xs3) (fun k => ((l0).length) - k) 0 ⟨M1, _, _, lerf, S, E.keep ⟨Y, Y, Y, Y, trivial⟩, by ((try clear S); (try clear E); first | assumption | omega | rfl | (simp; done) | (simp_all; done) | (simp [List.take_add_one, *]; done) | grind [List.take_add_one]), a4⟩ ?_
 try clear E
 try clear S
 try clear a
 try clear w
 rintro k a w ⟨a1, u3, xs3, a5, S, E, c1, hr3⟩
 replace h0 := h0.le JF a5
 refine QF (ZG E Y Y ?_)
 clear E a; intro a E
 refine ZB ?_
 refine QJ E Y (fun a9 => ?_) (fun a9 => ?_)
 ·refine zC ?_
  obtain ⟨a0, b1⟩ : ∃ x, (l0)[k]? = some x := ⟨_, List.getElem?_eq_getElem (by first | omega | (simp; done) | (simp; omega) | (simp_all; omega))⟩
  obtain ⟨c2, a3, b2, b3, a2⟩ := RdSS.at h0 b1
  have c3 := a2.bound
  refine Yh E Y Y T33 b2 Y fun _ B => Wa (cs := [.int .i64 a0.1, .int .i64 a0.2.1, .int .i64 a0.2.2.1, .int .i64 a0.2.2.2.1, .int .i64 a0.2.2.2.2.1, a3]) B Y (Tryz.isAgg40 _) (Tryz.sizeOf40 _) S.imm b3 ?_
  clear E a B; intro a E
  refine QB (ZL (cs := #[.int .i64 0, .int .i64 0, .int .i64 0, .int .i64 0, .int .i64 0, .slice none 0 0]) E S Y Tryz.zeroValue40 Y ?_)
  clear E a S; rintro a w b4 E S
  refine Jq (Je (us := [.int .i64 a0.1, .int .i64 a0.2.1, .int .i64 a0.2.2.1, .int .i64 a0.2.2.2.1, .int .i64 a0.2.2.2.2.1, a3]) E S Y Y (Tryz.sizeOf40 _) Y (by intro u hu; simp only [List.mem_cons, List.not_mem_nil, or_false] at hu; rcases hu with rfl | rfl | rfl | rfl | rfl | rfl <;> first | exact rfl | exact rfl | exact rfl | exact rfl | exact rfl | exact (JN.one' a2)) ?_)
  clear E a S; rintro a w E S
  replace S : St w a1 (Qh b4 (.cells #[.int .i64 a0.1, .int .i64 a0.2.1, .int .i64 a0.2.2.1, .int .i64 a0.2.2.2.1, .int .i64 a0.2.2.2.2.1, a3] 40) :: _) := S
  have S0 := S; clear S
  obtain ⟨c4, a6, b5, S⟩ := S0.freezeB
  clear S0
  replace hr3 := hr3.le JF a6
  replace a2 := a2.le a6
  refine qd (Qq E Y fun _ B => Ga B Y (Tryz.isAgg40 _) (Tryz.sizeOf40 _) S.imm b5 ?_)
  clear E a B; intro a E
  refine QB (Wh (R := yq) (cs := [.int .i64 a0.1, .int .i64 a0.2.1, .int .i64 a0.2.2.1, .int .i64 a0.2.2.2.1, .int .i64 a0.2.2.2.2.1, a3]) (x0 := a0) JF E S Y T45 Y Y Y ⟨_, Y, a2⟩ ?_)
  clear E a S; rintro a c5 w b6 a8 b7 S E
  replace hr3 := hr3.le JF a8
  refine QB (Wi (R := yq) (zs := l0.take k) (ys := [a0]) E S hr3 Y Y Y T45 b7 one_RSS (by (first | omega | (simp only [List.length_append, List.length_cons, List.length_nil]; omega) | (simp; omega))) (by (first | omega | (simp only [List.length_append, List.length_cons, List.length_nil]; omega) | (simp; omega))) ?_)
  clear E a S; rintro a w c6 c7 E a7 S
  refine Qx E Y fun _ B => J_k (QY (m := ((k + 1 : Nat) : Int)) B Y Y fun _ C => Qq C Y ?_)
  clear E a B C; intro a E
  refine Jx ?_
  have hre : (l0.take k) ++ [a0] = l0.take (k + 1) := by first | (simp; done) | exact (Gm (by assumption)).1.symm | (rw [List.take_add_one]; simp_all; done)
  replace S := S.reR hre
  replace a7 := a7.eq hre
  clear hre
  exact ⟨k + 1, ⟨b6, _, _, (a5.trans (a6.trans a8)), S, E.keep ⟨Y, Y, Y, Y, trivial⟩, by ((try clear S); (try clear E); first | assumption | omega | rfl | (simp; done) | (simp_all; done) | (simp [List.take_add_one, *]; done) | grind [List.take_add_one]), a7⟩, by omega⟩
 ·refine Um (JR 2 E Y ?_)
  clear E a; intro a E
  refine JQ ?_
  have S0 := S; clear S
  obtain ⟨b8, b9, c0, S⟩ := S0.freezeR hr3 JF (by (first | omega | (simp only [List.length_append, List.length_cons, List.length_nil]; omega) | (simp; omega)))
  clear S0
  exact Qk E Tryz.results28 Y ⟨_, Y, b8, (a5.trans b9), (by rw [show l0 = (l0.take k) from by (rw [List.take_of_length_le (by omega)])]; exact c0), S⟩
theorem jr {M : Hp} {v0 : Value} {l0 : List Gk} (h0 : JN 3 yX M v0 l0) (hs1 : l0.length ≤ 1000)  :
  Pu Tryz.prog (.func (.func 29) #[] #[]) M [v0] (fun r M' => JN 3 yX M' r l0) := by
 refine Jt Tryz.func29 Y Tryz.ntmps29 Y Tryz.call29 ?_
 intro a w M1 H hM1 S E
 replace h0 := h0.le Js hM1
 have b0 := h0.bound
 refine QF (Qx E Y fun _ B => QZ (Qx B Y fun _ C => VM (Qq C Y fun _ D => Jl D Y T35 h0.len fun _ F => Qq F Y ?_)))
 clear E a B C D F; intro a E
 refine VJ ?_
 replace S : St w M1 (Jk 69 3 (.slice none 0 0) ([] : List Gk).length [] :: _) := S.ownNil
 have a4 : JX yX 3 M1 ([] : List Gk) [] := JX.nil
 have hre : ([] : List Gk) = l0.take 0 := by first | (simp; done) | exact (Gm (by assumption)).1.symm | (rw [List.take_add_one]; simp_all; done)
 replace S := S.reR hre
 replace a4 := a4.eq hre
 clear hre
 refine Jb (γ := Nat) (fun (k : Nat) a w => ∃ (a1 : Hp) (u3 : Value) (xs3 : List Value), Hp.le M1 a1 ∧ St w a1 (Jk 69 3 u3 (l0.take k).length xs3 :: H) ∧ Env a 18 [] [(3, u3), (6, v0), (7, .int .i64 (((l0).length : Nat) : Int)), (8, .int .i64 ((k : Nat) : Int))] ∧ (k ≤ (l0).length) ∧ JX yX 3 a1 (l0.take k) xs3) (fun k => ((l0).length) - k) 0 ⟨M1, _, _, lerf, S, E.keep ⟨Y, Y, Y, Y, trivial⟩, by ((try clear S); (try clear E); first | assumption | omega | rfl | (simp; done) | (simp_all; done) | (simp [List.take_add_one, *]; done) | grind [List.take_add_one]), a4⟩ ?_
 try clear E
 try clear S
 try clear a
 try clear w
 rintro k a w ⟨a1, u3, xs3, a5, S, E, c1, hr3⟩
 replace h0 := h0.le Js a5
 refine QF (ZG E Y Y ?_)
 clear E a; intro a E
 refine ZB ?_
 refine QJ E Y (fun a9 => ?_) (fun a9 => ?_)
 ·refine zC ?_
  obtain ⟨a0, b1⟩ : ∃ x, (l0)[k]? = some x := ⟨_, List.getElem?_eq_getElem (by first | omega | (simp; done) | (simp; omega) | (simp_all; omega))⟩
  obtain ⟨c2, a3, b2, b3, a2⟩ := RdAN.at h0 b1
  have c3 := a2.bound
  refine Yh E Y Y T35 b2 Y fun _ B => Wa (cs := [.bool a0.1, .int .i64 a0.2.1, a3]) B Y (Tryz.isAgg42 _) (Tryz.sizeOf42 _) S.imm b3 ?_
  clear E a B; intro a E
  refine QB (ZL (cs := #[.bool false, .int .i64 0, .slice none 0 0]) E S Y Tryz.zeroValue42 Y ?_)
  clear E a S; rintro a w b4 E S
  refine Jq (Je (us := [.bool a0.1, .int .i64 a0.2.1, a3]) E S Y Y (Tryz.sizeOf42 _) Y (by intro u hu; simp only [List.mem_cons, List.not_mem_nil, or_false] at hu; rcases hu with rfl | rfl | rfl <;> first | exact rfl | exact rfl | exact (JN.one' a2)) ?_)
  clear E a S; rintro a w E S
  replace S : St w a1 (Qh b4 (.cells #[.bool a0.1, .int .i64 a0.2.1, a3] 42) :: _) := S
  have S0 := S; clear S
  obtain ⟨c4, a6, b5, S⟩ := S0.freezeB
  clear S0
  replace hr3 := hr3.le Js a6
  replace a2 := a2.le a6
  refine qd (Qq E Y fun _ B => Ga B Y (Tryz.isAgg42 _) (Tryz.sizeOf42 _) S.imm b5 ?_)
  clear E a B; intro a E
  refine QB (Wh (R := yX) (cs := [.bool a0.1, .int .i64 a0.2.1, a3]) (x0 := a0) Js E S Y yw Y Y Y ⟨_, Y, a2⟩ ?_)
  clear E a S; rintro a c5 w b6 a8 b7 S E
  replace hr3 := hr3.le Js a8
  refine QB (Wi (R := yX) (zs := l0.take k) (ys := [a0]) E S hr3 Y Y Y yw b7 vh (by (first | omega | (simp only [List.length_append, List.length_cons, List.length_nil]; omega) | (simp; omega))) (by (first | omega | (simp only [List.length_append, List.length_cons, List.length_nil]; omega) | (simp; omega))) ?_)
  clear E a S; rintro a w c6 c7 E a7 S
  refine Qx E Y fun _ B => J_k (QY (m := ((k + 1 : Nat) : Int)) B Y Y fun _ C => Qq C Y ?_)
  clear E a B C; intro a E
  refine Jx ?_
  have hre : (l0.take k) ++ [a0] = l0.take (k + 1) := by first | (simp; done) | exact (Gm (by assumption)).1.symm | (rw [List.take_add_one]; simp_all; done)
  replace S := S.reR hre
  replace a7 := a7.eq hre
  clear hre
  exact ⟨k + 1, ⟨b6, _, _, (a5.trans (a6.trans a8)), S, E.keep ⟨Y, Y, Y, Y, trivial⟩, by ((try clear S); (try clear E); first | assumption | omega | rfl | (simp; done) | (simp_all; done) | (simp [List.take_add_one, *]; done) | grind [List.take_add_one]), a7⟩, by omega⟩
 ·refine Um (JR 2 E Y ?_)
  clear E a; intro a E
  refine JQ ?_
  have S0 := S; clear S
  obtain ⟨b8, b9, c0, S⟩ := S0.freezeR hr3 Js (by (first | omega | (simp only [List.length_append, List.length_cons, List.length_nil]; omega) | (simp; omega)))
  clear S0
  exact Qk E Tryz.results29 Y ⟨_, Y, b8, (a5.trans b9), (by rw [show l0 = (l0.take k) from by (rw [List.take_of_length_le (by omega)])]; exact c0), S⟩
theorem Zb {M : Hp} {x0 : Int} :
  Pu Tryz.prog (.func (.func 64) #[] #[]) M [.int .i64 x0] (fun r M' => r = .int .i64 (x0 % 8)) := by
 refine Jt Tryz.func64 Y Tryz.ntmps64 Y Tryz.call64 ?_
 intro a w M1 H hM1 S E
 have ht := zF x0 8 (by decide)
 have ht2 := tmod_nn (p := Int.tmod x0 8 + 8) (q := 8) (by omega) (by omega)
 refine QF (Qx E Y fun _ B => QZ (Qq B Y fun _ C => e_rem C Y Y (by first | decide | omega) fun _ D => QY (m := (Int.tmod x0 8) + 8) D Y Y fun _ F => e_rem F Y Y (by first | decide | omega) fun _ G => Qx G Y ?_))
 clear E a B C D F G; intro a E
 refine JQ ?_
 exact Qk E Tryz.results64 Y ⟨_, Y, M1, lerf, (congrArg (Value.int .i64) (by (omega))), S⟩
end Go.Proofs.YtlmpgefhnmfhpaaGreat.wFnSetScript
