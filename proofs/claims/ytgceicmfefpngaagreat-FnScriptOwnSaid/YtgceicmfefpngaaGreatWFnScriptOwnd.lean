import Derived.Test.YtgceicmfefpngaaGreatWFnScriptOwnc
set_option linter.unusedVariables false
set_option linter.unusedSimpArgs false
namespace Go.Proofs.YtgceicmfefpngaaGreat.wFnScriptOwn
open Go Go.Sl
set_option maxRecDepth 100000
set_option maxHeartbeats 4000000
variable {M : Hp} {v0 v1 v2 v3 v4 v5 v6 v7 : Value} {l0 l1 l2 l3 l4 l5 l6 l7 : List Int} {n0 n1 n2 n3 n4 n5 n6 n7 : Nat} {x0 x1 x2 x3 x4 x5 x6 x7 : Int}
theorem Gw {M : Hp} {sd sn sm pk pn kk kn : Int} {wv cv : Value} {pl c : List Int} (hw : Qy M wv pl) (hc : Qy M cv c) {v1 : Value} {l : List Int} (h1 : Qy M v1 l) (gd : -9223372036854775808 ≤ sd ∧ sd ≤ 9223372036854775807) (gn : -9223372036854775808 ≤ sn ∧ sn ≤ 9223372036854775807) (gm : -9223372036854775808 ≤ sm ∧ sm ≤ 9223372036854775807) (gpn : -9223372036854775808 ≤ pn ∧ pn ≤ 9223372036854775807) (gkn : -9223372036854775808 ≤ kn ∧ kn ≤ 9223372036854775807) (hb : l.length ≤ 10000) (hcb : c.length ≤ 10000) (hpb : pl.length ≤ 10000)  :
  Pu Tryz.prog (.func (.func 11) #[] #[]) M [.agg #[.int .i64 sd, .int .i64 sn, .int .i64 sm, .int .i64 pk, .int .i64 pn, wv, .int .i64 kk, .int .i64 kn, cv], v1] (fun r M' => Qy M' r (Un (sd % 47).toNat ((sn % 12).toNat) ((sm % 12).toNat) sn sm pk pn pl kk kn c l)) := by
 refine Qd Tryz.func11 Y Tryz.ntmps11 Y Tryz.call11 ?_
 intro a w M1 H hM1 S E
 replace hw := hw.le hM1
 replace hc := hc.le hM1
 replace h1 := h1.le hM1
 have bw := hw.bound
 have bc := hc.bound
 have b1 := h1.bound
 have hdb : (sd % 47).toNat < 47 := by omega
 have hab : (sn % 12).toNat < 12 := by omega
 have hbb : (sm % 12).toNat < 12 := by omega
 refine Qs ?_
 refine Qk (QA (cs := #[.int .i64 sd, .int .i64 sn, .int .i64 sm, .int .i64 pk, .int .i64 pn, wv, .int .i64 kk, .int .i64 kn, cv]) E S Y Y Y ?_)
 clear E a S; rintro a w l7 E S
 obtain ⟨d5, a4, a0, S⟩ := S.freezeB
 replace hw := hw.le a4
 replace hc := hc.le a4
 replace h1 := h1.le a4
 refine Qj E Y ?_
 clear E a; intro a E
 refine ZJ ?_
 have hb_1k2 := a0
 replace S := S.mono_heap (w' := World.drew _) rfl
 refine Jb (C := fun x w => agree d5 w) (bf := (fun i => [])) [0, 1, 3, 4, 6, 7] [0, 1, 3, 4, 2, 5, 6, 7] Tryz.mixed (by kernel_rfl) (fun x hq => S.imm) ?_
 refine QU E Y (fun w hC => (Yt E Y (jg _))) fun _ B => QU B Y (fun w hC => (QQ B Y Tryz.isAgg3 hC (Qq hb_1k2 Y))) fun _ D => QU D Y (fun w hC => (Yt D Y (jf _))) fun _ F => QU F Y (fun w hC => (QQ F Y Tryz.isAgg3 hC (Qq hb_1k2 Y))) ?_
 clear E a B D F; intro a E
 refine ZP Y Y Y (Qm E S Y Y Y (ZM (by omega) (by omega)) lerf ?_)
 clear E a S; rintro a _ w l8 a1 rfl S E
 replace hw := hw.le a1
 replace hc := hc.le a1
 replace h1 := h1.le a1
 replace a0 := a1.2 _ _ a0
 refine ⟨fun x hq hb => (Qu a1 S.imm), ?_⟩
 refine ZP Y Y Y (Qm E S Y Y Y (ZM (by omega) (by omega)) lerf ?_)
 clear E a S; rintro a _ w l9 a2 rfl S E
 replace hw := hw.le a2
 replace hc := hc.le a2
 replace h1 := h1.le a2
 replace a0 := a2.2 _ _ a0
 refine ⟨fun x hq hb => (Qu (a1.trans a2) S.imm), ?_⟩
 refine QU E Y (fun w hC => (Jx E Y)) fun _ B => QU B Y (fun w hC => (Jx B Y)) ?_
 clear E a B; intro a E
 refine JI (JH ?_)
 refine JZ (Qs (Qi E Y (WH _) fun _ B => Qb B Y Tryz.isAgg3 S.imm (Qq a0 Y) ?_))
 clear E a B; intro a E
 refine Qk (Qm E S Y Y Y (ZM (by omega) (by omega)) lerf ?_)
 clear E a S; rintro a _ w m0 a3 rfl S E
 replace hw := hw.le a3
 replace hc := hc.le a3
 replace h1 := h1.le a3
 replace a0 := a3.2 _ _ a0
 refine J_w (QK E Y Y fun _ B => Qj B Y ?_)
 clear E a B; intro a E
 refine Qz ?_
 refine Ql E Y (fun d6 => ?_) (fun d6 => ?_)
 ·refine Qs (Qn E Y fun _ B => Qi B Y (Vd _) fun _ D => Jt (off := 3) (part := [.int .i64 pk, .int .i64 pn, wv]) D Y (Tryz.isAgg27 _) (Tryz.sizeOf27 _) S.imm a0 Y Y ?_)
  clear E a B D; intro a E
  refine Qk (Qm E S Y Y Y (jp h1 hw (by omega) (by (omega))) lerf ?_)
  clear E a S; rintro a m1 w d7 a5 d8 S E
  replace hw := hw.le a5
  replace hc := hc.le a5
  replace h1 := h1.le a5
  replace a0 := a5.2 _ _ a0
  refine Qj E Y ?_
  clear E a; intro a E
  refine jQ ?_
  exact Qa E Tryz.results11 Y ⟨_, Y, d7, (a4.trans (a1.trans (a2.trans (a3.trans a5)))), (QX.eqL d8 (by ((rw [show (sd % 47).toNat = 0 from by omega]; rfl)))), S⟩
 ·refine Qs (QK E Y Y fun _ B => Qj B Y ?_)
  clear E a B; intro a E
  refine Qz ?_
  refine Ql E Y (fun d9 => ?_) (fun d9 => ?_)
  ·refine Qs (Qn E Y fun _ B => Qi B Y (Vd _) fun _ D => Jt (off := 3) (part := [.int .i64 pk, .int .i64 pn, wv]) D Y (Tryz.isAgg27 _) (Tryz.sizeOf27 _) S.imm a0 Y Y ?_)
   clear E a B D; intro a E
   refine Qk (Qm E S Y Y Y (impl_Reject h1 hw (by omega) (by (omega))) lerf ?_)
   clear E a S; rintro a m2 w e0 a6 e1 S E
   replace hw := hw.le a6
   replace hc := hc.le a6
   replace h1 := h1.le a6
   replace a0 := a6.2 _ _ a0
   refine Qj E Y ?_
   clear E a; intro a E
   refine jQ ?_
   exact Qa E Tryz.results11 Y ⟨_, Y, e0, (a4.trans (a1.trans (a2.trans (a3.trans a6)))), (QX.eqL e1 (by ((rw [show (sd % 47).toNat = 1 from by omega]; rfl)))), S⟩
  ·refine Qs (QK E Y Y fun _ B => Qj B Y ?_)
   clear E a B; intro a E
   refine Qz ?_
   refine Ql E Y (fun e2 => ?_) (fun e2 => ?_)
   ·refine Qs (Qn E Y fun _ B => Qi B Y (Vk _) fun _ D => Jt (off := 6) (part := [.int .i64 kk, .int .i64 kn]) D Y (Tryz.isAgg30 _) (Tryz.sizeOf30 _) S.imm a0 Y Y ?_)
    clear E a B D; intro a E
    refine Qk (Qm E S Y Y Y (impl_Map h1 (by omega) (by (omega))) lerf ?_)
    clear E a S; rintro a m3 w e3 a7 e4 S E
    replace hw := hw.le a7
    replace hc := hc.le a7
    replace h1 := h1.le a7
    replace a0 := a7.2 _ _ a0
    refine Qj E Y ?_
    clear E a; intro a E
    refine jQ ?_
    exact Qa E Tryz.results11 Y ⟨_, Y, e3, (a4.trans (a1.trans (a2.trans (a3.trans a7)))), (QX.eqL e4 (by ((rw [show (sd % 47).toNat = 2 from by omega]; rfl)))), S⟩
   ·refine Qs (QK E Y Y fun _ B => Qj B Y ?_)
    clear E a B; intro a E
    refine Qz ?_
    refine Ql E Y (fun e5 => ?_) (fun e5 => ?_)
    ·refine Qs (Qn E Y fun _ B => Qi B Y (Vd _) fun _ D => Jt (off := 3) (part := [.int .i64 pk, .int .i64 pn, wv]) D Y (Tryz.isAgg27 _) (Tryz.sizeOf27 _) S.imm a0 Y Y fun _ F => Qi F Y (Vk _) fun _ G => Jt (off := 6) (part := [.int .i64 kk, .int .i64 kn]) G Y (Tryz.isAgg30 _) (Tryz.sizeOf30 _) S.imm a0 Y Y ?_)
     clear E a B D F G; intro a E
     refine Qk (Qm E S Y Y Y (vh h1 hw (by omega) (by omega) (by (omega))) lerf ?_)
     clear E a S; rintro a m4 w e6 a8 e7 S E
     replace hw := hw.le a8
     replace hc := hc.le a8
     replace h1 := h1.le a8
     replace a0 := a8.2 _ _ a0
     refine Qj E Y ?_
     clear E a; intro a E
     refine jQ ?_
     exact Qa E Tryz.results11 Y ⟨_, Y, e6, (a4.trans (a1.trans (a2.trans (a3.trans a8)))), (QX.eqL e7 (by ((rw [show (sd % 47).toNat = 3 from by omega]; rfl)))), S⟩
    ·refine Qs (QK E Y Y fun _ B => Qj B Y ?_)
     clear E a B; intro a E
     refine Qz ?_
     refine Ql E Y (fun e8 => ?_) (fun e8 => ?_)
     ·refine Qs (Qn E Y fun _ B => Qi B Y (Vk _) fun _ D => Jt (off := 6) (part := [.int .i64 kk, .int .i64 kn]) D Y (Tryz.isAgg30 _) (Tryz.sizeOf30 _) S.imm a0 Y Y ?_)
      clear E a B D; intro a E
      refine Qk (Qm E S Y Y Y (impl_FlatMap h1 (by omega) (by (omega))) lerf ?_)
      clear E a S; rintro a m5 w e9 a9 f0 S E
      replace hw := hw.le a9
      replace hc := hc.le a9
      replace h1 := h1.le a9
      replace a0 := a9.2 _ _ a0
      refine Qj E Y ?_
      clear E a; intro a E
      refine jQ ?_
      exact Qa E Tryz.results11 Y ⟨_, Y, e9, (a4.trans (a1.trans (a2.trans (a3.trans a9)))), (QX.eqL f0 (by ((rw [show (sd % 47).toNat = 4 from by omega]; rfl)))), S⟩
     ·refine Qs (QK E Y Y fun _ B => Qj B Y ?_)
      clear E a B; intro a E
      refine Qz ?_
      refine Ql E Y (fun f1 => ?_) (fun f1 => ?_)
      ·refine Qs (Qn E Y ?_)
       clear E a; intro a E
       refine Qk (Qm E S Y Y Y (impl_Uniq h1 (by (omega))) lerf ?_)
       clear E a S; rintro a m6 w f2 b0 f3 S E
       replace hw := hw.le b0
       replace hc := hc.le b0
       replace h1 := h1.le b0
       replace a0 := b0.2 _ _ a0
       refine Qj E Y ?_
       clear E a; intro a E
       refine jQ ?_
       exact Qa E Tryz.results11 Y ⟨_, Y, f2, (a4.trans (a1.trans (a2.trans (a3.trans b0)))), (QX.eqL f3 (by ((rw [show (sd % 47).toNat = 5 from by omega]; rfl)))), S⟩
      ·refine Qs (QK E Y Y fun _ B => Qj B Y ?_)
       clear E a B; intro a E
       refine Qz ?_
       refine Ql E Y (fun f4 => ?_) (fun f4 => ?_)
       ·refine Qs (Qn E Y fun _ B => Qi B Y (Vk _) fun _ D => Jt (off := 6) (part := [.int .i64 kk, .int .i64 kn]) D Y (Tryz.isAgg30 _) (Tryz.sizeOf30 _) S.imm a0 Y Y ?_)
        clear E a B D; intro a E
        refine Qk (Qm E S Y Y Y (impl_UniqBy h1 (by omega) (by (omega))) lerf ?_)
        clear E a S; rintro a m7 w f5 b2 f6 S E
        replace hw := hw.le b2
        replace hc := hc.le b2
        replace h1 := h1.le b2
        replace a0 := b2.2 _ _ a0
        refine Qj E Y ?_
        clear E a; intro a E
        refine jQ ?_
        exact Qa E Tryz.results11 Y ⟨_, Y, f5, (a4.trans (a1.trans (a2.trans (a3.trans b2)))), (QX.eqL f6 (by ((rw [show (sd % 47).toNat = 6 from by omega]; rfl)))), S⟩
       ·refine Qs (QK E Y Y fun _ B => Qj B Y ?_)
        clear E a B; intro a E
        refine Qz ?_
        refine Ql E Y (fun f7 => ?_) (fun f7 => ?_)
        ·refine Qs (Qn E Y ?_)
         clear E a; intro a E
         refine Qk (Qm E S Y Y Y (zR h1 (by (omega))) lerf ?_)
         clear E a S; rintro a m8 w f8 b3 f9 S E
         replace hw := hw.le b3
         replace hc := hc.le b3
         replace h1 := h1.le b3
         replace a0 := b3.2 _ _ a0
         refine Qj E Y ?_
         clear E a; intro a E
         refine jQ ?_
         exact Qa E Tryz.results11 Y ⟨_, Y, f8, (a4.trans (a1.trans (a2.trans (a3.trans b3)))), (QX.eqL f9 (by ((rw [show (sd % 47).toNat = 7 from by omega]; rfl)))), S⟩
        ·refine Qs (QK E Y Y fun _ B => Qj B Y ?_)
         clear E a B; intro a E
         refine Qz ?_
         refine Ql E Y (fun g0 => ?_) (fun g0 => ?_)
         ·refine Qs (Qn E Y ?_)
          clear E a; intro a E
          refine Qk (Qm E S Y Y Y (GO h1 (by (omega))) lerf ?_)
          clear E a S; rintro a m9 w g1 b4 g2 S E
          replace hw := hw.le b4
          replace hc := hc.le b4
          replace h1 := h1.le b4
          replace a0 := b4.2 _ _ a0
          refine Qj E Y ?_
          clear E a; intro a E
          refine jQ ?_
          exact Qa E Tryz.results11 Y ⟨_, Y, g1, (a4.trans (a1.trans (a2.trans (a3.trans b4)))), (QX.eqL g2 (by ((rw [show (sd % 47).toNat = 8 from by omega]; rfl)))), S⟩
         ·refine Qs (QK E Y Y fun _ B => Qj B Y ?_)
          clear E a B; intro a E
          refine Qz ?_
          refine Ql E Y (fun g3 => ?_) (fun g3 => ?_)
          ·refine Qs (Qn E Y fun _ B => Qi B Y (Vk _) fun _ D => Jt (off := 6) (part := [.int .i64 kk, .int .i64 kn]) D Y (Tryz.isAgg30 _) (Tryz.sizeOf30 _) S.imm a0 Y Y ?_)
           clear E a B D; intro a E
           refine Qk (Qm E S Y Y Y (qh h1 (by omega) (by (omega))) lerf ?_)
           clear E a S; rintro a n0 w g4 b5 g5 S E
           replace hw := hw.le b5
           replace hc := hc.le b5
           replace h1 := h1.le b5
           replace a0 := b5.2 _ _ a0
           refine Qj E Y ?_
           clear E a; intro a E
           refine jQ ?_
           exact Qa E Tryz.results11 Y ⟨_, Y, g4, (a4.trans (a1.trans (a2.trans (a3.trans b5)))), (QX.eqL g5 (by ((rw [show (sd % 47).toNat = 9 from by omega]; rfl)))), S⟩
          ·refine Qs (QK E Y Y fun _ B => Qj B Y ?_)
           clear E a B; intro a E
           refine Qz ?_
           refine Ql E Y (fun g6 => ?_) (fun g6 => ?_)
           ·refine Qs (Qn E Y fun _ B => Qi B Y (Vk _) fun _ D => Jt (off := 6) (part := [.int .i64 kk, .int .i64 kn]) D Y (Tryz.isAgg30 _) (Tryz.sizeOf30 _) S.imm a0 Y Y ?_)
            clear E a B D; intro a E
            refine Qk (Qm E S Y Y Y (WM h1 (by omega) (by (omega))) lerf ?_)
            clear E a S; rintro a n1 w g7 b6 g8 S E
            replace hw := hw.le b6
            replace hc := hc.le b6
            replace h1 := h1.le b6
            replace a0 := b6.2 _ _ a0
            refine Qj E Y ?_
            clear E a; intro a E
            refine jQ ?_
            exact Qa E Tryz.results11 Y ⟨_, Y, g7, (a4.trans (a1.trans (a2.trans (a3.trans b6)))), (QX.eqL g8 (by ((rw [show (sd % 47).toNat = 10 from by omega]; rfl)))), S⟩
           ·refine Qs (QK E Y Y fun _ B => Qj B Y ?_)
            clear E a B; intro a E
            refine Qz ?_
            refine Ql E Y (fun g9 => ?_) (fun g9 => ?_)
            ·refine Qs (Qn E Y ?_)
             clear E a; intro a E
             refine Qk (Qm E S Y Y Y (impl_Reverse h1 (by (omega))) lerf ?_)
             clear E a S; rintro a n2 w h0 b7 h2 S E
             replace hw := hw.le b7
             replace hc := hc.le b7
             replace h1 := h1.le b7
             replace a0 := b7.2 _ _ a0
             refine Qj E Y ?_
             clear E a; intro a E
             refine jQ ?_
             exact Qa E Tryz.results11 Y ⟨_, Y, h0, (a4.trans (a1.trans (a2.trans (a3.trans b7)))), (QX.eqL h2 (by ((rw [show (sd % 47).toNat = 11 from by omega]; rfl)))), S⟩
            ·refine Qs (QK E Y Y fun _ B => Qj B Y ?_)
             clear E a B; intro a E
             refine Qz ?_
             refine Ql E Y (fun h3 => ?_) (fun h3 => ?_)
             ·refine Qs (QD 2 E Y ?_)
              clear E a; intro a E
              refine Qk (Qm E S Y Y Y (impl_Take h1 (by (omega)) (by omega)) lerf ?_)
              clear E a S; rintro a _ w n3 b8 ⟨n4, rfl, h4⟩ S E
              replace hw := hw.le b8
              replace hc := hc.le b8
              replace h1 := h1.le b8
              replace a0 := b8.2 _ _ a0
              refine Qg E Y Y fun _ B => Qg B Y Y ?_
              clear E a B; intro a E
              refine Qk (Qm E S Y Y Y (Yx h4) lerf ?_)
              clear E a S; rintro a n5 w h5 b9 h6 S E
              replace hw := hw.le b9
              replace hc := hc.le b9
              replace h1 := h1.le b9
              replace a0 := b9.2 _ _ a0
              refine Qj E Y ?_
              clear E a; intro a E
              refine jQ ?_
              exact Qa E Tryz.results11 Y ⟨_, Y, h5, (a4.trans (a1.trans (a2.trans (a3.trans (b8.trans b9))))), (QX.eqL h6 (by ((rw [show (sd % 47).toNat = 12 from by omega]; rfl)))), S⟩
             ·refine Qs (QK E Y Y fun _ B => Qj B Y ?_)
              clear E a B; intro a E
              refine Qz ?_
              refine Ql E Y (fun h7 => ?_) (fun h7 => ?_)
              ·refine Qs (QD 2 E Y ?_)
               clear E a; intro a E
               refine Qk (Qm E S Y Y Y (impl_Drop h1 (by (omega)) (by omega)) lerf ?_)
               clear E a S; rintro a _ w n6 c0 ⟨n7, rfl, h8⟩ S E
               replace hw := hw.le c0
               replace hc := hc.le c0
               replace h1 := h1.le c0
               replace a0 := c0.2 _ _ a0
               refine Qg E Y Y fun _ B => Qg B Y Y ?_
               clear E a B; intro a E
               refine Qk (Qm E S Y Y Y (Yx h8) lerf ?_)
               clear E a S; rintro a n8 w h9 c1 i0 S E
               replace hw := hw.le c1
               replace hc := hc.le c1
               replace h1 := h1.le c1
               replace a0 := c1.2 _ _ a0
               refine Qj E Y ?_
               clear E a; intro a E
               refine jQ ?_
               exact Qa E Tryz.results11 Y ⟨_, Y, h9, (a4.trans (a1.trans (a2.trans (a3.trans (c0.trans c1))))), (QX.eqL i0 (by ((rw [show (sd % 47).toNat = 13 from by omega]; rfl)))), S⟩
              ·refine Qs (QK E Y Y fun _ B => Qj B Y ?_)
               clear E a B; intro a E
               refine Qz ?_
               refine Ql E Y (fun i1 => ?_) (fun i1 => ?_)
               ·refine Qs (QD 2 E Y ?_)
                clear E a; intro a E
                refine Qk (Qm E S Y Y Y (vj h1 (by (omega)) (by omega)) lerf ?_)
                clear E a S; rintro a _ w n9 c2 ⟨o0, rfl, i2⟩ S E
                replace hw := hw.le c2
                replace hc := hc.le c2
                replace h1 := h1.le c2
                replace a0 := c2.2 _ _ a0
                refine Qg E Y Y fun _ B => Qg B Y Y ?_
                clear E a B; intro a E
                refine Qk (Qm E S Y Y Y (Yx i2) lerf ?_)
                clear E a S; rintro a o1 w i3 c3 i4 S E
                replace hw := hw.le c3
                replace hc := hc.le c3
                replace h1 := h1.le c3
                replace a0 := c3.2 _ _ a0
                refine Qj E Y ?_
                clear E a; intro a E
                refine jQ ?_
                exact Qa E Tryz.results11 Y ⟨_, Y, i3, (a4.trans (a1.trans (a2.trans (a3.trans (c2.trans c3))))), (QX.eqL i4 (by ((rw [show (sd % 47).toNat = 14 from by omega]; rfl)))), S⟩
               ·refine Qs (QK E Y Y fun _ B => Qj B Y ?_)
                clear E a B; intro a E
                refine Qz ?_
                refine Ql E Y (fun i5 => ?_) (fun i5 => ?_)
                ·refine Qs (Qn E Y fun _ B => Qi B Y (Vd _) fun _ D => Jt (off := 3) (part := [.int .i64 pk, .int .i64 pn, wv]) D Y (Tryz.isAgg27 _) (Tryz.sizeOf27 _) S.imm a0 Y Y ?_)
                 clear E a B D; intro a E
                 refine Qk (Qm E S Y Y Y (va h1 hw (by omega) (by (omega))) lerf ?_)
                 clear E a S; rintro a o2 w i6 c4 i7 S E
                 replace hw := hw.le c4
                 replace hc := hc.le c4
                 replace h1 := h1.le c4
                 replace a0 := c4.2 _ _ a0
                 refine Qj E Y ?_
                 clear E a; intro a E
                 refine jQ ?_
                 exact Qa E Tryz.results11 Y ⟨_, Y, i6, (a4.trans (a1.trans (a2.trans (a3.trans c4)))), (QX.eqL i7 (by ((rw [show (sd % 47).toNat = 15 from by omega]; rfl)))), S⟩
                ·refine Qs (QK E Y Y fun _ B => Qj B Y ?_)
                 clear E a B; intro a E
                 refine Qz ?_
                 refine Ql E Y (fun i8 => ?_) (fun i8 => ?_)
                 ·refine Qs (Qn E Y fun _ B => Qi B Y (Vd _) fun _ D => Jt (off := 3) (part := [.int .i64 pk, .int .i64 pn, wv]) D Y (Tryz.isAgg27 _) (Tryz.sizeOf27 _) S.imm a0 Y Y ?_)
                  clear E a B D; intro a E
                  refine Qk (Qm E S Y Y Y (vi h1 hw (by omega) (by (omega))) lerf ?_)
                  clear E a S; rintro a o3 w i9 c5 j0 S E
                  replace hw := hw.le c5
                  replace hc := hc.le c5
                  replace h1 := h1.le c5
                  replace a0 := c5.2 _ _ a0
                  refine Qj E Y ?_
                  clear E a; intro a E
                  refine jQ ?_
                  exact Qa E Tryz.results11 Y ⟨_, Y, i9, (a4.trans (a1.trans (a2.trans (a3.trans c5)))), (QX.eqL j0 (by ((rw [show (sd % 47).toNat = 16 from by omega]; rfl)))), S⟩
                 ·refine Qs (QK E Y Y fun _ B => Qj B Y ?_)
                  clear E a B; intro a E
                  refine Qz ?_
                  refine Ql E Y (fun j1 => ?_) (fun j1 => ?_)
                  ·refine Qs (Qn E Y fun _ B => Qi B Y (Vd _) fun _ D => Jt (off := 3) (part := [.int .i64 pk, .int .i64 pn, wv]) D Y (Tryz.isAgg27 _) (Tryz.sizeOf27 _) S.imm a0 Y Y ?_)
                   clear E a B D; intro a E
                   refine Qk (Qm E S Y Y Y (GP h1 hw (by omega) (by (omega))) lerf ?_)
                   clear E a S; rintro a o4 w j2 c6 j3 S E
                   replace hw := hw.le c6
                   replace hc := hc.le c6
                   replace h1 := h1.le c6
                   replace a0 := c6.2 _ _ a0
                   refine Qj E Y ?_
                   clear E a; intro a E
                   refine jQ ?_
                   exact Qa E Tryz.results11 Y ⟨_, Y, j2, (a4.trans (a1.trans (a2.trans (a3.trans c6)))), (QX.eqL j3 (by ((rw [show (sd % 47).toNat = 17 from by omega]; rfl)))), S⟩
                  ·refine Qs (QK E Y Y fun _ B => Qj B Y ?_)
                   clear E a B; intro a E
                   refine Qz ?_
                   refine Ql E Y (fun j4 => ?_) (fun j4 => ?_)
                   ·refine Qs (QD 2 E Y fun _ B => Qi B Y (Vd _) fun _ D => Jt (off := 3) (part := [.int .i64 pk, .int .i64 pn, wv]) D Y (Tryz.isAgg27 _) (Tryz.sizeOf27 _) S.imm a0 Y Y ?_)
                    clear E a B D; intro a E
                    refine Qk (Qm E S Y Y Y (jA h1 hw (by omega) (by (omega)) (by omega)) lerf ?_)
                    clear E a S; rintro a _ w o5 c7 ⟨o6, rfl, j5⟩ S E
                    replace hw := hw.le c7
                    replace hc := hc.le c7
                    replace h1 := h1.le c7
                    replace a0 := c7.2 _ _ a0
                    refine Qg E Y Y fun _ B => Qg B Y Y ?_
                    clear E a B; intro a E
                    refine Qk (Qm E S Y Y Y (Yx j5) lerf ?_)
                    clear E a S; rintro a o7 w j6 c8 j7 S E
                    replace hw := hw.le c8
                    replace hc := hc.le c8
                    replace h1 := h1.le c8
                    replace a0 := c8.2 _ _ a0
                    refine Qj E Y ?_
                    clear E a; intro a E
                    refine jQ ?_
                    exact Qa E Tryz.results11 Y ⟨_, Y, j6, (a4.trans (a1.trans (a2.trans (a3.trans (c7.trans c8))))), (QX.eqL j7 (by ((rw [show (sd % 47).toNat = 18 from by omega]; rfl)))), S⟩
                   ·refine Qs (QK E Y Y fun _ B => Qj B Y ?_)
                    clear E a B; intro a E
                    refine Qz ?_
                    refine Ql E Y (fun j8 => ?_) (fun j8 => ?_)
                    ·refine Qs (QD 3 E Y ?_)
                     clear E a; intro a E
                     refine Qk (QV (ys := [(((sn % 12).toNat : Nat) : Int), (((sm % 12).toNat : Nat) : Int)]) E S Y QE Y Y Y ?_)
                     clear E a S; rintro a w o8 E S
                     have S0 := S; clear S
                     obtain ⟨o9, c9, j9, S⟩ := S0.freezeI (by ((simp; done)))
                     clear S0
                     replace hw := hw.le c9
                     replace hc := hc.le c9
                     replace h1 := h1.le c9
                     replace a0 := c9.2 _ _ a0
                     refine Qk (Qm E S Y Y Y (jv h1 j9 (by (omega))) lerf ?_)
                     clear E a S; rintro a p0 w k0 d0 k1 S E
                     replace hw := hw.le d0
                     replace hc := hc.le d0
                     replace h1 := h1.le d0
                     replace a0 := d0.2 _ _ a0
                     refine Qj E Y ?_
                     clear E a; intro a E
                     refine jQ ?_
                     exact Qa E Tryz.results11 Y ⟨_, Y, k0, (a4.trans (a1.trans (a2.trans (a3.trans (c9.trans d0))))), (QX.eqL k1 (by ((rw [show (sd % 47).toNat = 19 from by omega]; rfl)))), S⟩
                    ·refine Qs (QK E Y Y fun _ B => Qj B Y ?_)
                     clear E a B; intro a E
                     refine Qz ?_
                     refine Ql E Y (fun k2 => ?_) (fun k2 => ?_)
                     ·refine Qs (QD 3 E Y ?_)
                      clear E a; intro a E
                      refine Qk (Qm E S Y Y Y (impl_Slice h1 (by (omega)) (by omega) (by omega)) lerf ?_)
                      clear E a S; rintro a p1 w k3 d1 k4 S E
                      replace hw := hw.le d1
                      replace hc := hc.le d1
                      replace h1 := h1.le d1
                      replace a0 := d1.2 _ _ a0
                      refine Qj E Y ?_
                      clear E a; intro a E
                      refine jQ ?_
                      exact Qa E Tryz.results11 Y ⟨_, Y, k3, (a4.trans (a1.trans (a2.trans (a3.trans d1)))), (QX.eqL k4 (by ((rw [show (sd % 47).toNat = 20 from by omega]; rfl)))), S⟩
                     ·refine Qs (QK E Y Y fun _ B => Qj B Y ?_)
                      clear E a B; intro a E
                      refine Qz ?_
                      refine Ql E Y (fun k5 => ?_) (fun k5 => ?_)
                      ·refine Qs (QD 3 E Y fun _ B => VV (m := (((sm % 12).toNat : Nat) : Int)) B Y Tryz.underlying3 Tryz.underlying54 (by (rw [Yn]; omega)) ?_)
                       clear E a B; intro a E
                       refine Qk (Qm E S Y Y Y (impl_Subset h1 (by omega) (by omega) (by (omega))) lerf ?_)
                       clear E a S; rintro a p2 w k6 d2 k7 S E
                       replace hw := hw.le d2
                       replace hc := hc.le d2
                       replace h1 := h1.le d2
                       replace a0 := d2.2 _ _ a0
                       refine Qj E Y ?_
                       clear E a; intro a E
                       refine jQ ?_
                       exact Qa E Tryz.results11 Y ⟨_, Y, k6, (a4.trans (a1.trans (a2.trans (a3.trans d2)))), (QX.eqL k7 (by ((rw [show (sd % 47).toNat = 21 from by omega]; rfl)))), S⟩
                      ·refine Qs (QK E Y Y fun _ B => Qj B Y ?_)
                       clear E a B; intro a E
                       refine Qz ?_
                       refine Ql E Y (fun k8 => ?_) (fun k8 => ?_)
                       ·refine Qs (Qn E Y fun _ B => Qi B Y (jg _) fun _ D => Qb D Y Tryz.isAgg3 S.imm (Qq a0 Y) fun _ F => Qi F Y (jf _) fun _ G => Qb G Y Tryz.isAgg3 S.imm (Qq a0 Y) fun _ I => Qn I Y ?_)
                        clear E a B D F G I; intro a E
                        refine Qk (Qm E S Y Y Y (impl_Replace h1 (by (omega))) lerf ?_)
                        clear E a S; rintro a p3 w k9 d3 l0 S E
                        replace hw := hw.le d3
                        replace hc := hc.le d3
                        replace h1 := h1.le d3
                        replace a0 := d3.2 _ _ a0
                        refine Qj E Y ?_
                        clear E a; intro a E
                        refine jQ ?_
                        exact Qa E Tryz.results11 Y ⟨_, Y, k9, (a4.trans (a1.trans (a2.trans (a3.trans d3)))), (QX.eqL l0 (by ((rw [show (sd % 47).toNat = 22 from by omega]; rfl)))), S⟩
                       ·refine Qs (QK E Y Y fun _ B => Qj B Y ?_)
                        clear E a B; intro a E
                        refine Qz ?_
                        refine Ql E Y (fun l1 => ?_) (fun l1 => ?_)
                        ·refine Qs (Qn E Y fun _ B => Qi B Y (jg _) fun _ D => Qb D Y Tryz.isAgg3 S.imm (Qq a0 Y) fun _ F => Qi F Y (jf _) fun _ G => Qb G Y Tryz.isAgg3 S.imm (Qq a0 Y) ?_)
                         clear E a B D F G; intro a E
                         refine Qk (Qm E S Y Y Y (jF h1 (by (omega))) lerf ?_)
                         clear E a S; rintro a p4 w l2 d4 l3 S E
                         replace hw := hw.le d4
                         replace hc := hc.le d4
                         replace h1 := h1.le d4
                         replace a0 := d4.2 _ _ a0
                         refine Qj E Y ?_
                         clear E a; intro a E
                         refine jQ ?_
                         exact Qa E Tryz.results11 Y ⟨_, Y, l2, (a4.trans (a1.trans (a2.trans (a3.trans d4)))), (QX.eqL l3 (by ((rw [show (sd % 47).toNat = 23 from by omega]; rfl)))), S⟩
                        ·refine Qs (Za E Y (Tryz.isAgg32 _) (Tryz.sizeOf32 _) S.imm a0 fun _ B => QD 3 B Y ?_)
                         clear E a B; intro a E
                         refine Qk (Qm E S Y Y Y (vX hw hc h1 (by assumption) (by assumption) (by assumption) (by assumption) (by assumption) (by assumption) (by assumption) (by assumption) (by assumption) (by assumption) (by omega)) lerf ?_)
                         clear E a S; rintro a p5 w l4 l5 l6 S E
                         refine Qj E Y ?_
                         clear E a; intro a E
                         refine jQ ?_
                         exact Qa E Tryz.results11 Y ⟨_, Y, l4, (a4.trans (a1.trans (a2.trans (a3.trans l5)))), l6, S⟩
theorem yp {M : Hp} {v0 : Value} {l0 : List Int} (h0 : Qy M v0 l0){bx1 : Nat} (hbx1 : M bx1 = some (.cells #[v0] 22)) :
  Jh Tryz.prog (.func (.func 230) #[] #[.pointer (some ⟨bx1, 0, none⟩)]) M (QB) l0 := by
 refine Jw Tryz.func230 Y Tryz.ntmps230 Y Tryz.call230 ?_
 intro y J X a w M1 c H hJM hM1 hY hJ S E
 replace hbx1 := hM1.2 _ _ hbx1
 replace h0 := h0.le hM1
 have b0 := h0.bound
 refine Qs (Qb E Y Tryz.isAgg22 S.imm (Qf hbx1) fun _ B => Qt B Y QE h0.len fun _ C => Qn C Y ?_)
 clear E a B C; intro a E
 refine ZH ?_
 refine QN (γ := Nat) (fun (k : Nat) a w => ∃ (a0 : Hp) (cL0 : Qr), Hp.le M1 a0 ∧ St w a0 (zt [] :: cL0 :: H) ∧ Env a 16 (([] : List Nat).map mk) [(0, y), (5, v0), (6, .int .i64 (((l0).length : Nat) : Int)), (7, .int .i64 ((k : Nat) : Int))] ∧ (k ≤ (l0).length) ∧ J (l0.take k) a0 cL0) (fun k => ((l0).length) - k) 0 ⟨M1, _, lerf, S, E.keep ⟨Y, Y, Y, Y, trivial⟩, by (omega), Ju hJ (by (rfl))⟩ ?_
 try clear E
 try clear S
 try clear a
 try clear w
 rintro k a w ⟨a0, cL0, a1, S, E, b1, hJ⟩
 replace h0 := h0.le a1
 refine Qs (Jc E Y Y ?_)
 clear E a; intro a E
 refine ZJ ?_
 refine Ql E Y (fun a6 => ?_) (fun a6 => ?_)
 ·refine YZ ?_
  obtain ⟨a2, a7⟩ : ∃ x, (l0)[k]? = some x := ⟨_, List.getElem?_eq_getElem (by omega)⟩
  obtain ⟨b2, a8, a9⟩ := h0.at a7
  refine QZ E Y Y QE a8 Y fun _ B => Qb B Y Tryz.isAgg3 S.imm a9 fun _ C => Qj C Y fun _ D => QI (QD 2 D Y ?_)
  clear E a B C D; intro a E
  replace S := S.front1
  refine Qk (JC (x := a2) E S Y Y Y hY a1 (by ((rw [YP (by assumption)]; exact List.take_prefix _ _))) Y hJ ?_)
  clear E a S; rintro a w a3 a4 go_7 a5 hJ S E
  cases go_7
  ·replace hJ : X (l0.take k ++ [a2]) a3 a4 := hJ
   refine Ji E Y ?_
   clear E a; intro a E
   refine Qz ?_
   refine QY E Y Y ?_
   refine QM (ZC (J_u (ZC ?_)))
   replace S := S.front1
   exact QR E S Tryz.results230 (fun w S => ⟨_, Y, a3, _, (a1.trans a5), .inr ⟨(l0.take k ++ [a2]), (by ((first | (simp; done) | exact List.prefix_refl _ | (rw [YP (by assumption)]; exact List.take_prefix _ _) | exact pre_take_lt (by assumption)))), hJ⟩, S⟩)
  ·replace hJ : J (l0.take k ++ [a2]) a3 a4 := hJ
   refine Ji E Y ?_
   clear E a; intro a E
   refine Qz ?_
   refine QF E Y Y ?_
   refine zu (Qp (m := ((k + 1 : Nat) : Int)) E Y Y fun _ B => Qn B Y ?_)
   clear E a B; intro a E
   refine Qz ?_
   replace S := S.front1
   exact ⟨k + 1, ⟨a3, _, (a1.trans a5), S, E.keep ⟨Y, Y, Y, Y, trivial⟩, by (omega), Ju hJ (by ((try clear S); (try clear E); (simp [List.take_add_one, *]; done)))⟩, by omega⟩
 ·refine JO (Ul (Ul (zx (Yh ?_))))
  replace S := S.front1.front1
  have hpre : l0.take k = l0 := by ((try clear S); (try clear E); grind [List.take_add_one])
  rw [hpre] at hJ
  exact QR E S Tryz.results230 (fun w S => ⟨_, Y, a0, _, a1, .inl hJ, S⟩)
theorem QG {M : Hp} {v0 : Value} {l0 : List Int} (h0 : Qy M v0 l0) :
  Pu Tryz.prog (.func (.func 91) #[] #[]) M [v0] (fun r M' => Jh Tryz.prog r M' QB l0) := by
 refine Qd Tryz.func91 Y Tryz.ntmps91 Y Tryz.call91 ?_
 intro a w M1 H hM1 S E
 replace h0 := h0.le hM1
 have b0 := h0.bound
 refine Qs ?_
 refine Qk (QA (cs := #[v0]) E S Y Y (cells_one (QX.one' h0)) ?_)
 clear E a S; rintro a w a3 E S
 obtain ⟨a1, a0, a2, S⟩ := S.freezeB
 replace h0 := h0.le a0
 refine Qj E Y fun _ B => QI (Qv B Y Y fun _ C => Qj C Y ?_)
 clear E a B C; intro a E
 refine Jj ?_
 exact Qa E Tryz.results91 Y ⟨_, Y, a1, a0, (Jy (yp h0 a2) (by (rfl))), S⟩
theorem it_FilterI1 {M : Hp} {v0 : Value} {l0 : List Int} (h0 : Jh Tryz.prog v0 M (QB) l0) {v1 : Value} {f1 : Int → Int → Bool} (h1 : jP Tryz.prog v1 M f1) (hb : l0.length ≤ 1000000000000) {bx8 bx9 : Nat} (hbx8 : M bx8 = some (.cells #[v0] 62)) (hbx9 : M bx9 = some (.cells #[v1] 37)) :
  Jh Tryz.prog (.func (.func 229) #[] #[.pointer (some ⟨bx8, 0, none⟩), .pointer (some ⟨bx9, 0, none⟩)]) M (QB) (QT f1 0 l0) := by
 refine Jw Tryz.func229 Y Tryz.ntmps229 Y Tryz.call229 ?_
 intro y J X a w M1 c H hJM hM1 hY hJ S E
 replace h0 := h0.le hM1
 replace h1 := h1.le hM1
 replace hbx8 := hM1.2 _ _ hbx8
 replace hbx9 := hM1.2 _ _ hbx9
 refine Qs ?_
 refine Qk (QA (cs := #[y]) E S Y Y (cells_one hY.1) ?_)
 clear E a S; rintro a w a8 E S
 obtain ⟨b6, a0, a3, S⟩ := S.freezeB
 replace h0 := h0.le a0
 replace h1 := h1.le a0
 replace hbx8 := a0.2 _ _ hbx8
 replace hbx9 := a0.2 _ _ hbx9
 replace hJ := hJM _ _ _ _ a0 hJ
 refine QI ?_
 refine Qk (Ja (cs := #[.int .i64 0]) E S Y Tryz.zeroValue3 Y ?_)
 clear E a S; rintro a w a1 E S
 refine QI (Qb E Y Tryz.isAgg62 S.imm (Qf hbx8) ?_)
 clear E a; intro a E
 refine ZH ?_
 replace S := S.front2.front1
 replace E := E.keep (l' := [(2, .pointer (some ⟨bx9, 0, none⟩)), (3, .pointer (some ⟨a8, 0, none⟩)), (4, .pointer (some ⟨a1, 0, none⟩)), (6, v0)]) ⟨Y, Y, Y, Y, trivial⟩
 replace S := S.front1.front1
 replace S := S.blk_int (j := ((([] : List Int)).length : Int)) (by ((simp; done)))
 have S0 := S; clear S; have S := St.pack [Jk a1 (.cells #[.int .i64 ((([] : List Int)).length : Int)] 3), c] S0; clear S0
 refine JK (RV := QB) (l := l0) (fun pre M c => ∃ (c0 : Qr), c = Yf [Jk a1 (.cells #[.int .i64 ((pre).length : Int)] 3), c0] ∧ (J (QT f1 0 (pre)) M c0)) (fun cd pre M c => cd = .ret ∧ ∃ z, z <+: (QT f1 0 l0) ∧ X z M c) E S Y h0 lerf (fun _ _ _ h => by rw [h]; rfl) (by decide) (by rintro _ M M' c hM ⟨c0, rfl, f0⟩; exact ⟨_, rfl, hJM _ _ _ _ hM f0⟩) ⟨_, rfl, Ju hJ (by (rfl))⟩ ?_ ?_ ?_
 clear E S
 ·rintro lb_5 rec_6 pre x _ a w b7 _ G a5 b0 rfl ⟨c0, rfl, f0⟩ E S
  replace E : Env a 20 [] [(7, .int .i64 x), (2, .pointer (some ⟨bx9, 0, none⟩)), (3, .pointer (some ⟨a8, 0, none⟩)), (4, .pointer (some ⟨a1, 0, none⟩)), (6, v0)] := E
  replace S := S.swap.unpack2
  have hq0 := Js b0
  replace h1 := h1.le a5
  replace hbx9 := a5.2 _ _ hbx9
  replace a3 := a5.2 _ _ a3
  refine Qh (Qj E Y ?_)
  clear E a; intro a E
  refine Qz ?_
  replace S := S.front2
  refine rb S ?_
  clear S; intro w S
  refine QW (UK (Qb E Y Tryz.isAgg37 S.imm (Qf hbx9) fun _ B => Qn B Y fun _ C => QH C Y (Tryz.isAgg3 _) (Qo (S.mem (.tail _ (.head _)))) ?_))
  clear E a B C; intro a E
  refine Qk (Qm E S Y Y Y (h1.2 x ((pre).length : Int)) lerf ?_)
  clear E a S; rintro a _ w b1 a2 rfl S E
  replace a3 := a2.2 _ _ a3
  replace f0 := hJM _ _ _ _ a2 f0
  refine Qn E Y ?_
  clear E a; intro a E
  refine Jo (f1 x ((pre).length : Int)) (fun a4 => ?_) (fun a4 => ?_)
  ·replace E := E.val (t := 11) Y a4
   replace E := E.val (t := 12) Y a4
   refine Qc E Y Y (Qb E Y Tryz.isAgg95 S.imm (Qf a3) fun _ B => Qc B Y Y (Qn B Y ?_))
   clear E a B; intro a E
   replace S := S.front2
   refine Qc E Y Y ?_
   refine Qk (JC (x := x) E S Y Y Y hY (a0.trans (a5.trans a2)) (by exact YB (by assumption) (by assumption)) Y f0 ?_)
   clear E a S; rintro a w a6 a7 go_13 a9 f0 S E
   cases go_13
   ·replace f0 : X (QT f1 0 (pre) ++ [x]) a6 a7 := f0
    refine Qc E Y Y (Ji E Y fun _ B => JA B Y Y ?_)
    clear E a B; intro a E
    refine Qz ?_
    refine QY E Y Y ?_
    refine QM (UA (ZC ?_))
    replace S := S.front2.drop.front1
    exact ⟨a6, _, (a2.trans a9), ⟨Y, _, (by (exact YB (by assumption) (by first | assumption | (simp_all; done)))), f0⟩, S⟩
   ·replace f0 : J (QT f1 0 (pre) ++ [x]) a6 a7 := f0
    refine Qc E Y Y (Ji E Y fun _ B => JA B Y Y ?_)
    clear E a B; intro a E
    refine Qz ?_
    refine QF E Y Y ?_
    refine Qx (JZ (Qh (QH E Y (Tryz.isAgg3 _) (Qo (S.mem (.tail _ (.tail _ (.head _))))) fun _ B => Qp (m := (((pre).length + 1 : Nat) : Int)) B Y Y ?_)))
    clear E a B; intro a E
    replace S := S.front2
    refine Jm (QS E S Y Y (Tryz.sizeOf3 _) Y ?_)
    clear E a S; rintro a w E S
    refine Jz (ZK ?_)
    replace S := S.front1.front1.front1.front1
    replace S := S.blk_int (j := (((pre ++ [x])).length : Int)) (by ((simp; done)))
    have S0 := S; clear S; have S := (St.pack [Jk a1 (.cells #[.int .i64 (((pre ++ [x])).length : Int)] 3), a7] S0).swap; clear S0
    exact ⟨a6, _, (a2.trans a9), ⟨_, Y, Ju f0 (by (rw [ZS]; first | (simp [*]; done) | (simp_all; done)))⟩, S⟩
  ·replace E := E.val (t := 11) Y a4
   replace E := E.val (t := 12) Y a4
   refine Qe E Y Y Y Y fun _ B => Qe B Y Y Y Y fun _ C => Qe C Y Y Y Y fun _ D => Qe D Y Y Y Y fun _ F => JB F Y Y ?_
   clear E a B C D F; intro a E
   refine Qz ?_
   refine QF E Y Y ?_
   refine Qx (JZ (Qh (QH E Y (Tryz.isAgg3 _) (Qo (S.mem (.tail _ (.head _)))) fun _ B => Qp (m := (((pre).length + 1 : Nat) : Int)) B Y Y ?_)))
   clear E a B; intro a E
   replace S := S.front1
   refine Jm (QS E S Y Y (Tryz.sizeOf3 _) Y ?_)
   clear E a S; rintro a w E S
   refine Jz (ZK ?_)
   replace S := S.front2.front1.front1.front1
   replace S := S.blk_int (j := (((pre ++ [x])).length : Int)) (by ((simp; done)))
   have S0 := S; clear S; have S := (St.pack [Jk a1 (.cells #[.int .i64 (((pre ++ [x])).length : Int)] 3), c0] S0).swap; clear S0
   exact ⟨b1, _, a2, ⟨_, Y, Ju f0 (by (rw [ZS]; first | (simp [*]; done) | (simp_all; done)))⟩, S⟩
 ·rintro a w b2 _ D_15 b3 ⟨c0, rfl, f0⟩ S E
  replace S := S.unpack2
  refine ZK (Yh ?_)
  replace S := S.drop.front1
  have hpre : QT f1 0 (l0) = QT f1 0 l0 := by (rfl)
  rw [hpre] at f0
  exact QR E S Tryz.results229 (fun w S => ⟨_, Y, b2, _, (a0.trans b3), .inl f0, S⟩)
 ·rintro a w b4 c_ D_17 b8 _ b5 b9 ⟨rfl, z_, hz_, f0⟩ S E
  refine QM (ZC ?_)
  replace S := S.front1
  exact QR E S Tryz.results229 (fun w S => ⟨_, Y, b4, _, (a0.trans b5), .inr ⟨z_, (by assumption), f0⟩, S⟩)
theorem qa {M : Hp} {v0 : Value} {l0 : List Int} (h0 : Jh Tryz.prog v0 M (QB) l0) {v1 : Value} {f1 : Int → Int → Bool} (h1 : jP Tryz.prog v1 M f1) (hb : l0.length ≤ 1000000000000) :
  Pu Tryz.prog (.func (.func 90) #[] #[]) M [v0, v1] (fun r M' => Jh Tryz.prog r M' QB (QT f1 0 l0)) := by
 refine Qd Tryz.func90 Y Tryz.ntmps90 Y Tryz.call90 ?_
 intro a w M1 H hM1 S E
 replace h0 := h0.le hM1
 replace h1 := h1.le hM1
 refine Qs ?_
 refine Qk (QA (cs := #[v0]) E S Y Y (cells_one h0.1) ?_)
 clear E a S; rintro a w a5 E S
 obtain ⟨a6, a1, a2, S⟩ := S.freezeB
 replace h0 := h0.le a1
 replace h1 := h1.le a1
 refine Qk (QA (cs := #[v1]) E S Y Y (cells_one h1.1) ?_)
 clear E a S; rintro a w a7 E S
 obtain ⟨a3, a0, a4, S⟩ := S.freezeB
 replace h0 := h0.le a0
 replace h1 := h1.le a0
 replace a2 := a0.2 _ _ a2
 refine Qj E Y fun _ B => QI (Qv B Y Y fun _ C => Qj C Y ?_)
 clear E a B C; intro a E
 refine Jj ?_
 exact Qa E Tryz.results90 Y ⟨_, Y, a3, (a1.trans a0), (Jy (it_FilterI1 (f1 := f1) h0 h1 (by (omega)) a2 a4) (by (rfl))), S⟩
theorem zz {M : Hp} {v1 : Value} {l1 : List Int} (h1 : Jh Tryz.prog v1 M (QB) l1)(hb : l1.length ≤ 1000000000000) :
  Pu Tryz.prog (.func (.func 228) #[] #[]) M [.slice none 0 0, v1] (fun r M' => Qy M' r l1) := by
 refine Qd Tryz.func228 Y Tryz.ntmps228 Y Tryz.call228 ?_
 intro a w M1 H hM1 S E
 replace h1 := h1.le hM1
 replace S : St w M1 (zt [] :: _) := S.empty
 replace E : Env a 13 (([] : List Nat).map mk) _ := E
 refine Qs ?_
 refine Qk (QA (cs := #[.slice none 0 0]) E S Y Y Y ?_)
 clear E a S; rintro a w a0 E S
 refine Qj E Y fun _ B => Zp (Qn B Y ?_)
 clear E a B; intro a E
 refine ZH ?_
 replace S := (S.ownNil (e := 3) (sz := 1)).made0
 replace S := S.front1
 replace E := E.keep (l' := [(2, .pointer (some ⟨a0, 0, none⟩)), (6, v1)]) ⟨Y, Y, trivial⟩
 replace S := S.front1
 replace S := S.re1 (l' := ([] : List Int)) (by (rfl))
 replace S := S.front1
 have S0 := S; clear S; have S := St.pack [Jk a0 (.cells #[(.slice none 0 0)] 22), Jg 3 (.slice none 0 0) ([] : List Int)] S0; clear S0
 refine JK (RV := QB) (l := l1) (fun pre M c => ∃ (u2 : Value), c = Yf [Jk a0 (.cells #[u2] 22), Jg 3 u2 pre]) (fun _ _ _ _ => False) E S Y h1 lerf (fun _ _ _ h => by rw [h]; rfl) (by decide) (by rintro _ M M' c hM ⟨u2, rfl⟩; exact ⟨_, rfl⟩) ⟨_, rfl⟩ ?_ ?_ ?_
 clear E S
 ·rintro lb_4 rec_5 pre x _ a w a2 _ G a8 a3 rfl ⟨u2, rfl⟩ E S
  replace E : Env a 13 [] [(7, .int .i64 x), (2, .pointer (some ⟨a0, 0, none⟩)), (6, v1)] := E
  replace S := S.swap.unpack2
  have hq0 := Js a3
  refine Qh (Qj E Y ?_)
  clear E a; intro a E
  refine Qz ?_
  replace S := S.front2
  refine rb S ?_
  clear S; intro w S
  refine QW (Qh (QH E Y (Tryz.isAgg22 _) (Qo (S.mem (.tail _ (.head _)))) fun _ B => Qn B Y ?_))
  clear E a B; intro a E
  refine Qk (QV (ys := [x]) E S Y QE Y Y Y ?_)
  clear E a S; rintro a w a9 E S
  replace S := S.front3.front1
  refine Qk (JF (xs := pre) (ys := [x]) E S Y Y Y QE (by (simp; omega)) ?_)
  clear E a S; rintro a w a1 E S
  have ho_10 := S.oneI
  replace S := S.front2
  refine Jm (QS E S Y Y (Tryz.sizeOf22 _) ho_10 ?_)
  clear E a S; rintro a w E S
  refine Jz (ZK ?_)
  replace S := S.front1.front1.front1.front1
  have S0 := S; clear S; have S := (St.pack [Jk a0 (.cells #[a1] 22), Jg 3 a1 (pre ++ [x])] S0).swap; clear S0
  exact ⟨a2, _, lerf, ⟨_, Y⟩, S⟩
 ·rintro a w b0 _ D_12 a4 ⟨u2, rfl⟩ S E
  replace S := S.unpack2
  refine ZK (JZ (Qs (QH E Y (Tryz.isAgg22 _) (Qo (S.mem (.head _))) fun _ B => Qj B Y ?_)))
  clear E a B; intro a E
  refine Jj ?_
  replace S := S.front1
  have S0 := S; clear S
  obtain ⟨a5, a6, a7, S⟩ := S0.freezeI (by (omega))
  clear S0
  replace S := S.drop
  exact yh E S Tryz.results228 Y (fun w S => ⟨_, Y, a5, (a4.trans a6), a7, S⟩)
 ·rintro _ _ _ _ _ _ _ _ _ hX; exact hX.elim
theorem QJ {M : Hp} {v0 : Value} {l0 : List Int} (h0 : Jh Tryz.prog v0 M (QB) l0)(hb : l0.length ≤ 1000000000000) :
  Pu Tryz.prog (.func (.func 89) #[] #[]) M [v0] (fun r M' => Qy M' r l0) := by
 refine Qd Tryz.func89 Y Tryz.ntmps89 Y Tryz.call89 ?_
 intro a w M1 H hM1 S E
 replace h0 := h0.le hM1
 refine Qs (Qj E Y fun _ B => QI (Qn B Y ?_))
 clear E a B; intro a E
 refine Qk (Qm E S Y Y Y (zz h0 (by omega)) lerf ?_)
 clear E a S; rintro a a3 w a0 a1 a2 S E
 refine Qj E Y ?_
 clear E a; intro a E
 refine Jj ?_
 exact Qa E Tryz.results89 Y ⟨_, Y, a0, a1, a2, S⟩
theorem vg {M : Hp} {v0 : Value} {l0 : List Int} (h0 : Qy M v0 l0){pk1 pn1 : Int} {w1 : Value} {pl1 : List Int} (hw1 : Qy M w1 pl1) (gn1 : -9223372036854775808 ≤ pn1 ∧ pn1 ≤ 9223372036854775807) (hb : l0.length ≤ 1000000000000) :
  Pu Tryz.prog (.func (.func 13) #[] #[]) M [v0, .agg #[.int .i64 pk1, .int .i64 pn1, w1]] (fun r M' => Qy M' r (QT (Jv pk1 pn1 pl1) 0 l0)) := by
 refine Qd Tryz.func13 Y Tryz.ntmps13 Y Tryz.call13 ?_
 intro a w M1 H hM1 S E
 replace h0 := h0.le hM1
 replace hw1 := hw1.le hM1
 have b0 := h0.bound
 have hfl := Zs (Jv pk1 pn1 pl1) l0 0
 refine Qs ?_
 refine Qk (QA (cs := #[.int .i64 pk1, .int .i64 pn1, w1]) E S Y Y Y ?_)
 clear E a S; rintro a w b1 E S
 obtain ⟨a4, a1, a5, S⟩ := S.freezeB
 replace h0 := h0.le a1
 replace hw1 := hw1.le a1
 refine Qj E Y ?_
 clear E a; intro a E
 refine ZJ ?_
 have hb_1k2 := a5
 replace S := S.mono_heap (w' := World.drew _) rfl
 refine Jb (C := fun x w => agree a4 w) (bf := (fun i => [])) [0, 2, 3, 6] [0, 2, 3, 1, 4, 5, 6] Tryz.mixed (by kernel_rfl) (fun x hq => S.imm) ?_
 refine QU E Y (fun w hC => (QL E Y)) fun _ B => QU B Y (fun w hC => (ZW B Y (Tryz.isAgg27 _) (Tryz.sizeOf27 _) hC hb_1k2)) fun _ D => QU D Y (fun w hC => (ZV D Y Y)) ?_
 clear E a B D; intro a E
 refine ZP Y Y Y (Qm E S Y Y Y (QG h0) lerf ?_)
 clear E a S; rintro a b2 w b3 a0 a6 S E
 replace hw1 := hw1.le a0
 refine ⟨fun x hq hb => (Qu a0 S.imm), ?_⟩
 refine ZP Y Y Y (Qm E S Y Y Y (qa a6 ⟨Y, fun zx1 zx2 => GK (x1 := zx1) (x2 := zx2) hw1 (by omega)⟩ (by (omega))) lerf ?_)
 clear E a S; rintro a b4 w b5 a2 a7 S E
 refine ⟨fun x hq hb => (Qu (a0.trans a2) S.imm), ?_⟩
 refine ZP Y Y Y (Qm E S Y Y Y (QJ a7 (by omega)) lerf ?_)
 clear E a S; rintro a b6 w a8 a3 a9 S E
 refine ⟨fun x hq hb => (Qu (a0.trans (a2.trans a3)) S.imm), ?_⟩
 refine QU E Y (fun w hC => (Jx E Y)) ?_
 clear E a; intro a E
 refine JI (JH ?_)
 refine JZ (QM ?_)
 exact Qa E Tryz.results13 Y ⟨_, Y, a8, (a1.trans (a0.trans (a2.trans a3))), a9, S⟩
theorem it_RejectI1 {M : Hp} {v0 : Value} {l0 : List Int} (h0 : Jh Tryz.prog v0 M (QB) l0) {v1 : Value} {f1 : Int → Int → Bool} (h1 : jP Tryz.prog v1 M f1) (hb : l0.length ≤ 1000000000000) {bx8 bx9 : Nat} (hbx8 : M bx8 = some (.cells #[v0] 62)) (hbx9 : M bx9 = some (.cells #[v1] 37)) :
  Jh Tryz.prog (.func (.func 267) #[] #[.pointer (some ⟨bx8, 0, none⟩), .pointer (some ⟨bx9, 0, none⟩)]) M (QB) (QT (fun x i => !f1 x i) 0 l0) := by
 refine Jw Tryz.func267 Y Tryz.ntmps267 Y Tryz.call267 ?_
 intro y J X a w M1 c H hJM hM1 hY hJ S E
 replace h0 := h0.le hM1
 replace h1 := h1.le hM1
 replace hbx8 := hM1.2 _ _ hbx8
 replace hbx9 := hM1.2 _ _ hbx9
 refine Qs ?_
 refine Qk (QA (cs := #[y]) E S Y Y (cells_one hY.1) ?_)
 clear E a S; rintro a w a8 E S
 obtain ⟨b6, a0, a3, S⟩ := S.freezeB
 replace h0 := h0.le a0
 replace h1 := h1.le a0
 replace hbx8 := a0.2 _ _ hbx8
 replace hbx9 := a0.2 _ _ hbx9
 replace hJ := hJM _ _ _ _ a0 hJ
 refine QI ?_
 refine Qk (Ja (cs := #[.int .i64 0]) E S Y Tryz.zeroValue3 Y ?_)
 clear E a S; rintro a w a1 E S
 refine QI (Qb E Y Tryz.isAgg62 S.imm (Qf hbx8) ?_)
 clear E a; intro a E
 refine ZH ?_
 replace S := S.front2.front1
 replace E := E.keep (l' := [(2, .pointer (some ⟨bx9, 0, none⟩)), (3, .pointer (some ⟨a8, 0, none⟩)), (4, .pointer (some ⟨a1, 0, none⟩)), (6, v0)]) ⟨Y, Y, Y, Y, trivial⟩
 replace S := S.front1.front1
 replace S := S.blk_int (j := ((([] : List Int)).length : Int)) (by ((simp; done)))
 have S0 := S; clear S; have S := St.pack [Jk a1 (.cells #[.int .i64 ((([] : List Int)).length : Int)] 3), c] S0; clear S0
 refine JK (RV := QB) (l := l0) (fun pre M c => ∃ (c0 : Qr), c = Yf [Jk a1 (.cells #[.int .i64 ((pre).length : Int)] 3), c0] ∧ (J (QT (fun x i => !f1 x i) 0 (pre)) M c0)) (fun cd pre M c => cd = .ret ∧ ∃ z, z <+: (QT (fun x i => !f1 x i) 0 l0) ∧ X z M c) E S Y h0 lerf (fun _ _ _ h => by rw [h]; rfl) (by decide) (by rintro _ M M' c hM ⟨c0, rfl, f0⟩; exact ⟨_, rfl, hJM _ _ _ _ hM f0⟩) ⟨_, rfl, Ju hJ (by (rfl))⟩ ?_ ?_ ?_
 clear E S
 ·rintro lb_5 rec_6 pre x _ a w b7 _ G a5 b0 rfl ⟨c0, rfl, f0⟩ E S
  replace E : Env a 21 [] [(7, .int .i64 x), (2, .pointer (some ⟨bx9, 0, none⟩)), (3, .pointer (some ⟨a8, 0, none⟩)), (4, .pointer (some ⟨a1, 0, none⟩)), (6, v0)] := E
  replace S := S.swap.unpack2
  have hq0 := Js b0
  replace h1 := h1.le a5
  replace hbx9 := a5.2 _ _ hbx9
  replace a3 := a5.2 _ _ a3
  refine Qh (Qj E Y ?_)
  clear E a; intro a E
  refine Qz ?_
  replace S := S.front2
  refine rb S ?_
  clear S; intro w S
  refine QW (UK (Qb E Y Tryz.isAgg37 S.imm (Qf hbx9) fun _ B => Qn B Y fun _ C => QH C Y (Tryz.isAgg3 _) (Qo (S.mem (.tail _ (.head _)))) ?_))
  clear E a B C; intro a E
  refine Qk (Qm E S Y Y Y (h1.2 x ((pre).length : Int)) lerf ?_)
  clear E a S; rintro a _ w b1 a2 rfl S E
  replace a3 := a2.2 _ _ a3
  replace f0 := hJM _ _ _ _ a2 f0
  refine Ji E Y fun _ B => Qn B Y ?_
  clear E a B; intro a E
  refine Jo (!(f1 x ((pre).length : Int))) (fun a4 => ?_) (fun a4 => ?_)
  ·replace E := E.val (t := 12) Y a4
   replace E := E.val (t := 13) Y a4
   refine Qc E Y Y (Qb E Y Tryz.isAgg95 S.imm (Qf a3) fun _ B => Qc B Y Y (Qn B Y ?_))
   clear E a B; intro a E
   replace S := S.front2
   refine Qc E Y Y ?_
   refine Qk (JC (x := x) E S Y Y Y hY (a0.trans (a5.trans a2)) (by exact YB (by assumption) (by assumption)) Y f0 ?_)
   clear E a S; rintro a w a6 a7 go_13 a9 f0 S E
   cases go_13
   ·replace f0 : X (QT (fun x i => !f1 x i) 0 (pre) ++ [x]) a6 a7 := f0
    refine Qc E Y Y (Ji E Y fun _ B => JA B Y Y ?_)
    clear E a B; intro a E
    refine Qz ?_
    refine QY E Y Y ?_
    refine QM (UA (ZC ?_))
    replace S := S.front2.drop.front1
    exact ⟨a6, _, (a2.trans a9), ⟨Y, _, (by (exact YB (by assumption) (by first | assumption | (simp_all; done)))), f0⟩, S⟩
   ·replace f0 : J (QT (fun x i => !f1 x i) 0 (pre) ++ [x]) a6 a7 := f0
    refine Qc E Y Y (Ji E Y fun _ B => JA B Y Y ?_)
    clear E a B; intro a E
    refine Qz ?_
    refine QF E Y Y ?_
    refine Qx (JZ (Qh (QH E Y (Tryz.isAgg3 _) (Qo (S.mem (.tail _ (.tail _ (.head _))))) fun _ B => Qp (m := (((pre).length + 1 : Nat) : Int)) B Y Y ?_)))
    clear E a B; intro a E
    replace S := S.front2
    refine Jm (QS E S Y Y (Tryz.sizeOf3 _) Y ?_)
    clear E a S; rintro a w E S
    refine Jz (ZK ?_)
    replace S := S.front1.front1.front1.front1
    replace S := S.blk_int (j := (((pre ++ [x])).length : Int)) (by ((simp; done)))
    have S0 := S; clear S; have S := (St.pack [Jk a1 (.cells #[.int .i64 (((pre ++ [x])).length : Int)] 3), a7] S0).swap; clear S0
    exact ⟨a6, _, (a2.trans a9), ⟨_, Y, Ju f0 (by (rw [ZS]; first | (simp [*]; done) | (simp_all; done)))⟩, S⟩
  ·replace E := E.val (t := 12) Y a4
   replace E := E.val (t := 13) Y a4
   refine Qe E Y Y Y Y fun _ B => Qe B Y Y Y Y fun _ C => Qe C Y Y Y Y fun _ D => Qe D Y Y Y Y fun _ F => JB F Y Y ?_
   clear E a B C D F; intro a E
   refine Qz ?_
   refine QF E Y Y ?_
   refine Qx (JZ (Qh (QH E Y (Tryz.isAgg3 _) (Qo (S.mem (.tail _ (.head _)))) fun _ B => Qp (m := (((pre).length + 1 : Nat) : Int)) B Y Y ?_)))
   clear E a B; intro a E
   replace S := S.front1
   refine Jm (QS E S Y Y (Tryz.sizeOf3 _) Y ?_)
   clear E a S; rintro a w E S
   refine Jz (ZK ?_)
   replace S := S.front2.front1.front1.front1
   replace S := S.blk_int (j := (((pre ++ [x])).length : Int)) (by ((simp; done)))
   have S0 := S; clear S; have S := (St.pack [Jk a1 (.cells #[.int .i64 (((pre ++ [x])).length : Int)] 3), c0] S0).swap; clear S0
   exact ⟨b1, _, a2, ⟨_, Y, Ju f0 (by (rw [ZS]; first | (simp [*]; done) | (simp_all; done)))⟩, S⟩
 ·rintro a w b2 _ D_15 b3 ⟨c0, rfl, f0⟩ S E
  replace S := S.unpack2
  refine ZK (Yh ?_)
  replace S := S.drop.front1
  have hpre : QT (fun x i => !f1 x i) 0 (l0) = QT (fun x i => !f1 x i) 0 l0 := by (rfl)
  rw [hpre] at f0
  exact QR E S Tryz.results267 (fun w S => ⟨_, Y, b2, _, (a0.trans b3), .inl f0, S⟩)
 ·rintro a w b4 c_ D_17 b8 _ b5 b9 ⟨rfl, z_, hz_, f0⟩ S E
  refine QM (ZC ?_)
  replace S := S.front1
  exact QR E S Tryz.results267 (fun w S => ⟨_, Y, b4, _, (a0.trans b5), .inr ⟨z_, (by assumption), f0⟩, S⟩)
theorem GZ {M : Hp} {v0 : Value} {l0 : List Int} (h0 : Jh Tryz.prog v0 M (QB) l0) {v1 : Value} {f1 : Int → Int → Bool} (h1 : jP Tryz.prog v1 M f1) (hb : l0.length ≤ 1000000000000) :
  Pu Tryz.prog (.func (.func 186) #[] #[]) M [v0, v1] (fun r M' => Jh Tryz.prog r M' QB (QT (fun x i => !f1 x i) 0 l0)) := by
 refine Qd Tryz.func186 Y Tryz.ntmps186 Y Tryz.call186 ?_
 intro a w M1 H hM1 S E
 replace h0 := h0.le hM1
 replace h1 := h1.le hM1
 refine Qs ?_
 refine Qk (QA (cs := #[v0]) E S Y Y (cells_one h0.1) ?_)
 clear E a S; rintro a w a5 E S
 obtain ⟨a6, a1, a2, S⟩ := S.freezeB
 replace h0 := h0.le a1
 replace h1 := h1.le a1
 refine Qk (QA (cs := #[v1]) E S Y Y (cells_one h1.1) ?_)
 clear E a S; rintro a w a7 E S
 obtain ⟨a3, a0, a4, S⟩ := S.freezeB
 replace h0 := h0.le a0
 replace h1 := h1.le a0
 replace a2 := a0.2 _ _ a2
 refine Qj E Y fun _ B => QI (Qv B Y Y fun _ C => Qj C Y ?_)
 clear E a B C; intro a E
 refine Jj ?_
 exact Qa E Tryz.results186 Y ⟨_, Y, a3, (a1.trans a0), (Jy (it_RejectI1 (f1 := f1) h0 h1 (by (omega)) a2 a4) (by (rfl))), S⟩
theorem vc {M : Hp} {v0 : Value} {l0 : List Int} (h0 : Qy M v0 l0){pk1 pn1 : Int} {w1 : Value} {pl1 : List Int} (hw1 : Qy M w1 pl1) (gn1 : -9223372036854775808 ≤ pn1 ∧ pn1 ≤ 9223372036854775807) (hb : l0.length ≤ 1000000000000) :
  Pu Tryz.prog (.func (.func 70) #[] #[]) M [v0, .agg #[.int .i64 pk1, .int .i64 pn1, w1]] (fun r M' => Qy M' r (QT (fun x i => !(Jv pk1 pn1 pl1) x i) 0 l0)) := by
 refine Qd Tryz.func70 Y Tryz.ntmps70 Y Tryz.call70 ?_
 intro a w M1 H hM1 S E
 replace h0 := h0.le hM1
 replace hw1 := hw1.le hM1
 have b0 := h0.bound
 have hfl := Zs (fun x i => !(Jv pk1 pn1 pl1) x i) l0 0
 refine Qs ?_
 refine Qk (QA (cs := #[.int .i64 pk1, .int .i64 pn1, w1]) E S Y Y Y ?_)
 clear E a S; rintro a w b1 E S
 obtain ⟨a4, a1, a5, S⟩ := S.freezeB
 replace h0 := h0.le a1
 replace hw1 := hw1.le a1
 refine Qj E Y ?_
 clear E a; intro a E
 refine ZJ ?_
 have hb_1k2 := a5
 replace S := S.mono_heap (w' := World.drew _) rfl
 refine Jb (C := fun x w => agree a4 w) (bf := (fun i => [])) [0, 2, 3, 6] [0, 2, 3, 1, 4, 5, 6] Tryz.mixed (by kernel_rfl) (fun x hq => S.imm) ?_
 refine QU E Y (fun w hC => (QL E Y)) fun _ B => QU B Y (fun w hC => (ZW B Y (Tryz.isAgg27 _) (Tryz.sizeOf27 _) hC hb_1k2)) fun _ D => QU D Y (fun w hC => (ZV D Y Y)) ?_
 clear E a B D; intro a E
 refine ZP Y Y Y (Qm E S Y Y Y (QG h0) lerf ?_)
 clear E a S; rintro a b2 w b3 a0 a6 S E
 replace hw1 := hw1.le a0
 refine ⟨fun x hq hb => (Qu a0 S.imm), ?_⟩
 refine ZP Y Y Y (Qm E S Y Y Y (GZ a6 ⟨Y, fun zx1 zx2 => GK (x1 := zx1) (x2 := zx2) hw1 (by omega)⟩ (by (omega))) lerf ?_)
 clear E a S; rintro a b4 w b5 a2 a7 S E
 refine ⟨fun x hq hb => (Qu (a0.trans a2) S.imm), ?_⟩
 refine ZP Y Y Y (Qm E S Y Y Y (QJ a7 (by omega)) lerf ?_)
 clear E a S; rintro a b6 w a8 a3 a9 S E
 refine ⟨fun x hq hb => (Qu (a0.trans (a2.trans a3)) S.imm), ?_⟩
 refine QU E Y (fun w hC => (Jx E Y)) ?_
 clear E a; intro a E
 refine JI (JH ?_)
 refine JZ (QM ?_)
 exact Qa E Tryz.results70 Y ⟨_, Y, a8, (a1.trans (a0.trans (a2.trans a3))), a9, S⟩
theorem it_MapI1 {M : Hp} {v0 : Value} {l0 : List Int} (h0 : Jh Tryz.prog v0 M (QB) l0) {v1 : Value} {f1 : Int → Int → Int} (h1 : PF2I Tryz.prog v1 M f1) (hb : l0.length ≤ 1000000000000) {bx8 bx9 : Nat} (hbx8 : M bx8 = some (.cells #[v0] 62)) (hbx9 : M bx9 = some (.cells #[v1] 40)) :
  Jh Tryz.prog (.func (.func 268) #[] #[.pointer (some ⟨bx8, 0, none⟩), .pointer (some ⟨bx9, 0, none⟩)]) M (QB) (Yk f1 0 l0) := by
 refine Jw Tryz.func268 Y Tryz.ntmps268 Y Tryz.call268 ?_
 intro y J X a w M1 c H hJM hM1 hY hJ S E
 replace h0 := h0.le hM1
 replace h1 := h1.le hM1
 replace hbx8 := hM1.2 _ _ hbx8
 replace hbx9 := hM1.2 _ _ hbx9
 refine Qs ?_
 refine Qk (QA (cs := #[y]) E S Y Y (cells_one hY.1) ?_)
 clear E a S; rintro a w a8 E S
 obtain ⟨b5, a0, a5, S⟩ := S.freezeB
 replace h0 := h0.le a0
 replace h1 := h1.le a0
 replace hbx8 := a0.2 _ _ hbx8
 replace hbx9 := a0.2 _ _ hbx9
 replace hJ := hJM _ _ _ _ a0 hJ
 refine QI ?_
 refine Qk (Ja (cs := #[.int .i64 0]) E S Y Tryz.zeroValue3 Y ?_)
 clear E a S; rintro a w a1 E S
 refine QI (Qb E Y Tryz.isAgg62 S.imm (Qf hbx8) ?_)
 clear E a; intro a E
 refine ZH ?_
 replace S := S.front2.front1
 replace E := E.keep (l' := [(2, .pointer (some ⟨bx9, 0, none⟩)), (3, .pointer (some ⟨a8, 0, none⟩)), (4, .pointer (some ⟨a1, 0, none⟩)), (6, v0)]) ⟨Y, Y, Y, Y, trivial⟩
 replace S := S.front1.front1
 replace S := S.blk_int (j := ((([] : List Int)).length : Int)) (by ((simp; done)))
 have S0 := S; clear S; have S := St.pack [Jk a1 (.cells #[.int .i64 ((([] : List Int)).length : Int)] 3), c] S0; clear S0
 refine JK (RV := QB) (l := l0) (fun pre M c => ∃ (c0 : Qr), c = Yf [Jk a1 (.cells #[.int .i64 ((pre).length : Int)] 3), c0] ∧ (J (Yk f1 0 (pre)) M c0)) (fun cd pre M c => cd = .ret ∧ ∃ z, z <+: (Yk f1 0 l0) ∧ X z M c) E S Y h0 lerf (fun _ _ _ h => by rw [h]; rfl) (by decide) (by rintro _ M M' c hM ⟨c0, rfl, f0⟩; exact ⟨_, rfl, hJM _ _ _ _ hM f0⟩) ⟨_, rfl, Ju hJ (by (rfl))⟩ ?_ ?_ ?_
 clear E S
 ·rintro lb_5 rec_6 pre x _ a w a9 _ G a3 b0 rfl ⟨c0, rfl, f0⟩ E S
  replace E : Env a 17 [] [(7, .int .i64 x), (2, .pointer (some ⟨bx9, 0, none⟩)), (3, .pointer (some ⟨a8, 0, none⟩)), (4, .pointer (some ⟨a1, 0, none⟩)), (6, v0)] := E
  replace S := S.swap.unpack2
  have hq0 := Js b0
  replace h1 := h1.le a3
  replace hbx9 := a3.2 _ _ hbx9
  replace a5 := a3.2 _ _ a5
  refine Qh (Qj E Y ?_)
  clear E a; intro a E
  refine Qz ?_
  replace S := S.front2
  refine rb S ?_
  clear S; intro w S
  refine QW (Je (Je ?_))
  have hbx9k8 := hbx9
  have hb_1k8 := a5
  replace S := S.mono_heap (w' := World.drew _) rfl
  refine Jb (C := fun x w => agree a9 w ∧ (x = 3 → w.heap[a1]? = some (.cells #[.int .i64 ((pre).length : Int)] 3))) (bf := (fun i => bif Nat.beq i 4 then [3] else bif Nat.beq i 5 then [3] else [])) [0, 1, 2, 3, 6] [0, 1, 2, 3, 4, 5, 6] Tryz.mixed (by kernel_rfl) (fun x hq => ⟨S.imm, fun _ => (S.mem (.tail _ (.head _)))⟩) ?_
  refine QU E Y (fun w hC => (QQ E Y Tryz.isAgg95 hC.1 (Qf hb_1k8))) fun _ B => QU B Y (fun w hC => (QQ B Y Tryz.isAgg40 hC.1 (Qf hbx9k8))) fun _ D => QU D Y (fun w hC => (QL D Y)) fun _ F => QU F Y (fun w hC => (ZF F Y (Tryz.isAgg3 _) (Qo (hC.2 Y)))) ?_
  clear E a B D F; intro a E
  refine ZP Y Y Y (Qm E S Y Y Y (h1.2 x ((pre).length : Int)) lerf ?_)
  clear E a S; rintro a _ w b6 a2 rfl S E
  replace f0 := hJM _ _ _ _ a2 f0
  refine ⟨fun x hq hb => ⟨(Qu a2 S.imm), (fun e => by subst e; exact absurd hb (by decide))⟩, ?_⟩
  replace S := S.front2
  refine ZP Y Y Y (JC (x := f1 x ((pre).length : Int)) E S Y Y Y hY (a0.trans (a3.trans a2)) (by exact jl (by assumption)) Y f0 ?_)
  clear E a S; rintro a w a4 a6 go_12 a7 f0 S E
  refine ⟨fun x hq hb => ⟨(Qu (a2.trans a7) S.imm), (fun e => by subst e; exact absurd hb (by decide))⟩, ?_⟩
  cases go_12
  ·replace f0 : X (Yk f1 0 (pre) ++ [f1 x ((pre).length : Int)]) a4 a6 := f0
   refine QU E Y (fun w hC => (YN E Y)) ?_
   clear E a; intro a E
   refine JI (JH ?_)
   refine JZ ?_
   refine QY E Y Y ?_
   refine QM (UA (ZC ?_))
   replace S := S.front2.drop.front1
   exact ⟨a4, _, (a2.trans a7), ⟨Y, _, (by (exact jl (by assumption))), f0⟩, S⟩
  ·replace f0 : J (Yk f1 0 (pre) ++ [f1 x ((pre).length : Int)]) a4 a6 := f0
   refine QU E Y (fun w hC => (YN E Y)) ?_
   clear E a; intro a E
   refine JI (JH ?_)
   refine JZ ?_
   refine QF E Y Y ?_
   refine Qx (JZ (Qh (QH E Y (Tryz.isAgg3 _) (Qo (S.mem (.tail _ (.tail _ (.head _))))) fun _ B => Qp (m := (((pre).length + 1 : Nat) : Int)) B Y Y ?_)))
   clear E a B; intro a E
   replace S := S.front2
   refine Jm (QS E S Y Y (Tryz.sizeOf3 _) Y ?_)
   clear E a S; rintro a w E S
   refine Jz (ZK ?_)
   replace S := S.front1.front1.front1.front1
   replace S := S.blk_int (j := (((pre ++ [x])).length : Int)) (by ((simp; done)))
   have S0 := S; clear S; have S := (St.pack [Jk a1 (.cells #[.int .i64 (((pre ++ [x])).length : Int)] 3), a6] S0).swap; clear S0
   exact ⟨a4, _, (a2.trans a7), ⟨_, Y, Ju f0 (by (rw [mapI_app1]))⟩, S⟩
 ·rintro a w b1 _ D_14 b2 ⟨c0, rfl, f0⟩ S E
  replace S := S.unpack2
  refine ZK (Yh ?_)
  replace S := S.drop.front1
  have hpre : Yk f1 0 (l0) = Yk f1 0 l0 := by (rfl)
  rw [hpre] at f0
  exact QR E S Tryz.results268 (fun w S => ⟨_, Y, b1, _, (a0.trans b2), .inl f0, S⟩)
 ·rintro a w b3 c_ D_16 b7 _ b4 b8 ⟨rfl, z_, hz_, f0⟩ S E
  refine QM (ZC ?_)
  replace S := S.front1
  exact QR E S Tryz.results268 (fun w S => ⟨_, Y, b3, _, (a0.trans b4), .inr ⟨z_, (by assumption), f0⟩, S⟩)
theorem it_MapI {M : Hp} {v0 : Value} {l0 : List Int} (h0 : Jh Tryz.prog v0 M (QB) l0) {v1 : Value} {f1 : Int → Int → Int} (h1 : PF2I Tryz.prog v1 M f1) (hb : l0.length ≤ 1000000000000) :
  Pu Tryz.prog (.func (.func 187) #[] #[]) M [v0, v1] (fun r M' => Jh Tryz.prog r M' QB (Yk f1 0 l0)) := by
 refine Qd Tryz.func187 Y Tryz.ntmps187 Y Tryz.call187 ?_
 intro a w M1 H hM1 S E
 replace h0 := h0.le hM1
 replace h1 := h1.le hM1
 refine Qs ?_
 refine Qk (QA (cs := #[v0]) E S Y Y (cells_one h0.1) ?_)
 clear E a S; rintro a w a5 E S
 obtain ⟨a6, a1, a2, S⟩ := S.freezeB
 replace h0 := h0.le a1
 replace h1 := h1.le a1
 refine Qk (QA (cs := #[v1]) E S Y Y (cells_one h1.1) ?_)
 clear E a S; rintro a w a7 E S
 obtain ⟨a3, a0, a4, S⟩ := S.freezeB
 replace h0 := h0.le a0
 replace h1 := h1.le a0
 replace a2 := a0.2 _ _ a2
 refine Qj E Y fun _ B => QI (Qv B Y Y fun _ C => Qj C Y ?_)
 clear E a B C; intro a E
 refine Jj ?_
 exact Qa E Tryz.results187 Y ⟨_, Y, a3, (a1.trans a0), (Jy (it_MapI1 (f1 := f1) h0 h1 (by (omega)) a2 a4) (by (rfl))), S⟩
theorem impl_MapSeq {M : Hp} {v0 : Value} {l0 : List Int} (h0 : Qy M v0 l0){kk1 kn1 : Int} (gk1 : -9223372036854775808 ≤ kn1 ∧ kn1 ≤ 9223372036854775807) (hb : l0.length ≤ 1000000000000) :
  Pu Tryz.prog (.func (.func 71) #[] #[]) M [v0, .agg #[.int .i64 kk1, .int .i64 kn1]] (fun r M' => Qy M' r (Yk (JL kk1 kn1) 0 l0)) := by
 refine Qd Tryz.func71 Y Tryz.ntmps71 Y Tryz.call71 ?_
 intro a w M1 H hM1 S E
 replace h0 := h0.le hM1
 have b0 := h0.bound
 have hml := WW (JL kk1 kn1) l0 0
 refine Qs ?_
 refine Qk (QA (cs := #[.int .i64 kk1, .int .i64 kn1]) E S Y Y Y ?_)
 clear E a S; rintro a w b1 E S
 obtain ⟨a4, a2, a5, S⟩ := S.freezeB
 replace h0 := h0.le a2
 refine Qj E Y ?_
 clear E a; intro a E
 refine ZJ ?_
 have hb_1k2 := a5
 replace S := S.mono_heap (w' := World.drew _) rfl
 refine Jb (C := fun x w => agree a4 w) (bf := (fun i => [])) [0, 2, 3, 6] [0, 2, 3, 1, 4, 5, 6] Tryz.mixed (by kernel_rfl) (fun x hq => S.imm) ?_
 refine QU E Y (fun w hC => (QL E Y)) fun _ B => QU B Y (fun w hC => (ZW B Y (Tryz.isAgg30 _) (Tryz.sizeOf30 _) hC hb_1k2)) fun _ D => QU D Y (fun w hC => (ZV D Y Y)) ?_
 clear E a B D; intro a E
 refine ZP Y Y Y (Qm E S Y Y Y (QG h0) lerf ?_)
 clear E a S; rintro a b2 w b3 a0 a6 S E
 refine ⟨fun x hq hb => (Qu a0 S.imm), ?_⟩
 refine ZP Y Y Y (Qm E S Y Y Y (it_MapI a6 ⟨Y, fun zx1 zx2 => Key_at (x1 := zx1) (x2 := zx2) (by omega)⟩ (by (omega))) lerf ?_)
 clear E a S; rintro a b4 w b5 a1 a7 S E
 refine ⟨fun x hq hb => (Qu (a0.trans a1) S.imm), ?_⟩
 refine ZP Y Y Y (Qm E S Y Y Y (QJ a7 (by omega)) lerf ?_)
 clear E a S; rintro a b6 w a8 a3 a9 S E
 refine ⟨fun x hq hb => (Qu (a0.trans (a1.trans a3)) S.imm), ?_⟩
 refine QU E Y (fun w hC => (Jx E Y)) ?_
 clear E a; intro a E
 refine JI (JH ?_)
 refine JZ (QM ?_)
 exact Qa E Tryz.results71 Y ⟨_, Y, a8, (a2.trans (a0.trans (a1.trans a3))), a9, S⟩
theorem yS {M : Hp} {v0 : Value} {l0 : List Int} (h0 : Jh Tryz.prog v0 M (QB) l0) {v1 : Value} {f1 : Int → Int → Int × Bool} (h1 : PF2T Tryz.prog v1 M f1) (hb : l0.length ≤ 1000000000000) {bx8 bx9 : Nat} (hbx8 : M bx8 = some (.cells #[v0] 62)) (hbx9 : M bx9 = some (.cells #[v1] 86)) :
  Jh Tryz.prog (.func (.func 269) #[] #[.pointer (some ⟨bx8, 0, none⟩), .pointer (some ⟨bx9, 0, none⟩)]) M (QB) (Zt f1 0 l0) := by
 refine Jw Tryz.func269 Y Tryz.ntmps269 Y Tryz.call269 ?_
 intro y J X a w M1 c H hJM hM1 hY hJ S E
 replace h0 := h0.le hM1
 replace h1 := h1.le hM1
 replace hbx8 := hM1.2 _ _ hbx8
 replace hbx9 := hM1.2 _ _ hbx9
 refine Qs ?_
 refine Qk (QA (cs := #[y]) E S Y Y (cells_one hY.1) ?_)
 clear E a S; rintro a w a8 E S
 obtain ⟨b6, a1, a4, S⟩ := S.freezeB
 replace h0 := h0.le a1
 replace h1 := h1.le a1
 replace hbx8 := a1.2 _ _ hbx8
 replace hbx9 := a1.2 _ _ hbx9
 replace hJ := hJM _ _ _ _ a1 hJ
 refine QI ?_
 refine Qk (Ja (cs := #[.int .i64 0]) E S Y Tryz.zeroValue3 Y ?_)
 clear E a S; rintro a w a2 E S
 refine QI (Qb E Y Tryz.isAgg62 S.imm (Qf hbx8) ?_)
 clear E a; intro a E
 refine ZH ?_
 replace S := S.front2.front1
 replace E := E.keep (l' := [(2, .pointer (some ⟨bx9, 0, none⟩)), (3, .pointer (some ⟨a8, 0, none⟩)), (4, .pointer (some ⟨a2, 0, none⟩)), (8, v0)]) ⟨Y, Y, Y, Y, trivial⟩
 replace S := S.front1.front1
 replace S := S.blk_int (j := ((([] : List Int)).length : Int)) (by ((simp; done)))
 have S0 := S; clear S; have S := St.pack [Jk a2 (.cells #[.int .i64 ((([] : List Int)).length : Int)] 3), c] S0; clear S0
 refine JK (RV := QB) (l := l0) (fun pre M c => ∃ (c0 : Qr), c = Yf [Jk a2 (.cells #[.int .i64 ((pre).length : Int)] 3), c0] ∧ (J (Zt f1 0 (pre)) M c0)) (fun cd pre M c => cd = .ret ∧ ∃ z, z <+: (Zt f1 0 l0) ∧ X z M c) E S Y h0 lerf (fun _ _ _ h => by rw [h]; rfl) (by decide) (by rintro _ M M' c hM ⟨c0, rfl, f0⟩; exact ⟨_, rfl, hJM _ _ _ _ hM f0⟩) ⟨_, rfl, Ju hJ (by (rfl))⟩ ?_ ?_ ?_
 clear E S
 ·rintro lb_5 rec_6 pre x _ a w b7 _ G a5 b0 rfl ⟨c0, rfl, f0⟩ E S
  replace E : Env a 26 [] [(9, .int .i64 x), (2, .pointer (some ⟨bx9, 0, none⟩)), (3, .pointer (some ⟨a8, 0, none⟩)), (4, .pointer (some ⟨a2, 0, none⟩)), (8, v0)] := E
  replace S := S.swap.unpack2
  have hq0 := Js b0
  replace h1 := h1.le a5
  replace hbx9 := a5.2 _ _ hbx9
  replace a4 := a5.2 _ _ a4
  refine Qh (Qj E Y ?_)
  clear E a; intro a E
  refine Qz ?_
  replace S := S.front2
  refine rb S ?_
  clear S; intro w S
  refine QW (UK (Qb E Y Tryz.isAgg86 S.imm (Qf hbx9) fun _ B => Qn B Y fun _ C => QH C Y (Tryz.isAgg3 _) (Qo (S.mem (.tail _ (.head _)))) ?_))
  clear E a B C; intro a E
  refine Qk (Qm E S Y Y Y (h1.2 x ((pre).length : Int)) lerf ?_)
  clear E a S; rintro a _ w b1 a3 rfl S E
  replace a4 := a3.2 _ _ a4
  replace f0 := hJM _ _ _ _ a3 f0
  refine Qn E Y fun _ B => Qg B Y Y fun _ C => Qg C Y Y fun _ D => QD 2 D Y fun _ F => QI (QD 2 F Y ?_)
  clear E a B C D F; intro a E
  refine Jo ((f1 x ((pre).length : Int)).2) (fun a0 => ?_) (fun a0 => ?_)
  ·replace E := E.val (t := 16) Y a0
   replace E := E.val (t := 7) Y a0
   replace E := E.val (t := 17) Y a0
   replace E := E.val (t := 18) Y a0
   refine Qc E Y Y (Qb E Y Tryz.isAgg95 S.imm (Qf a4) fun _ B => Qc B Y Y (Qn B Y ?_))
   clear E a B; intro a E
   replace S := S.front2
   refine Qc E Y Y ?_
   refine Qk (JC (x := (f1 x ((pre).length : Int)).1) E S Y Y Y hY (a1.trans (a5.trans a3)) (by exact ze (by assumption) (by assumption)) Y f0 ?_)
   clear E a S; rintro a w a6 a7 go_13 a9 f0 S E
   cases go_13
   ·replace f0 : X (Zt f1 0 (pre) ++ [(f1 x ((pre).length : Int)).1]) a6 a7 := f0
    refine Qc E Y Y (Ji E Y fun _ B => JA B Y Y ?_)
    clear E a B; intro a E
    refine Qz ?_
    refine QY E Y Y ?_
    refine QM (UA (ZC ?_))
    replace S := S.front2.drop.front1
    exact ⟨a6, _, (a3.trans a9), ⟨Y, _, (by (exact ze (by assumption) (by assumption))), f0⟩, S⟩
   ·replace f0 : J (Zt f1 0 (pre) ++ [(f1 x ((pre).length : Int)).1]) a6 a7 := f0
    refine Qc E Y Y (Ji E Y fun _ B => JA B Y Y ?_)
    clear E a B; intro a E
    refine Qz ?_
    refine QF E Y Y ?_
    refine Qx (JZ (Qh (QH E Y (Tryz.isAgg3 _) (Qo (S.mem (.tail _ (.tail _ (.head _))))) fun _ B => Qp (m := (((pre).length + 1 : Nat) : Int)) B Y Y ?_)))
    clear E a B; intro a E
    replace S := S.front2
    refine Jm (QS E S Y Y (Tryz.sizeOf3 _) Y ?_)
    clear E a S; rintro a w E S
    refine Jz (ZK ?_)
    replace S := S.front1.front1.front1.front1
    replace S := S.blk_int (j := (((pre ++ [x])).length : Int)) (by ((simp; done)))
    have S0 := S; clear S; have S := (St.pack [Jk a2 (.cells #[.int .i64 (((pre ++ [x])).length : Int)] 3), a7] S0).swap; clear S0
    exact ⟨a6, _, (a3.trans a9), ⟨_, Y, Ju f0 (by (rw [WB]; simp [*]))⟩, S⟩
  ·replace E := E.val (t := 16) Y a0
   replace E := E.val (t := 7) Y a0
   replace E := E.val (t := 17) Y a0
   replace E := E.val (t := 18) Y a0
   refine Qe E Y Y Y Y fun _ B => Qe B Y Y Y Y fun _ C => Qe C Y Y Y Y fun _ D => Qe D Y Y Y Y fun _ F => JB F Y Y ?_
   clear E a B C D F; intro a E
   refine Qz ?_
   refine QF E Y Y ?_
   refine Qx (JZ (Qh (QH E Y (Tryz.isAgg3 _) (Qo (S.mem (.tail _ (.head _)))) fun _ B => Qp (m := (((pre).length + 1 : Nat) : Int)) B Y Y ?_)))
   clear E a B; intro a E
   replace S := S.front1
   refine Jm (QS E S Y Y (Tryz.sizeOf3 _) Y ?_)
   clear E a S; rintro a w E S
   refine Jz (ZK ?_)
   replace S := S.front2.front1.front1.front1
   replace S := S.blk_int (j := (((pre ++ [x])).length : Int)) (by ((simp; done)))
   have S0 := S; clear S; have S := (St.pack [Jk a2 (.cells #[.int .i64 (((pre ++ [x])).length : Int)] 3), c0] S0).swap; clear S0
   exact ⟨b1, _, a3, ⟨_, Y, Ju f0 (by (rw [WB]; simp [*]))⟩, S⟩
 ·rintro a w b2 _ D_15 b3 ⟨c0, rfl, f0⟩ S E
  replace S := S.unpack2
  refine ZK (Yh ?_)
  replace S := S.drop.front1
  have hpre : Zt f1 0 (l0) = Zt f1 0 l0 := by (rfl)
  rw [hpre] at f0
  exact QR E S Tryz.results269 (fun w S => ⟨_, Y, b2, _, (a1.trans b3), .inl f0, S⟩)
 ·rintro a w b4 c_ D_17 b8 _ b5 b9 ⟨rfl, z_, hz_, f0⟩ S E
  refine QM (ZC ?_)
  replace S := S.front1
  exact QR E S Tryz.results269 (fun w S => ⟨_, Y, b4, _, (a1.trans b5), .inr ⟨z_, (by assumption), f0⟩, S⟩)
theorem it_FilterMapI {M : Hp} {v0 : Value} {l0 : List Int} (h0 : Jh Tryz.prog v0 M (QB) l0) {v1 : Value} {f1 : Int → Int → Int × Bool} (h1 : PF2T Tryz.prog v1 M f1) (hb : l0.length ≤ 1000000000000) :
  Pu Tryz.prog (.func (.func 188) #[] #[]) M [v0, v1] (fun r M' => Jh Tryz.prog r M' QB (Zt f1 0 l0)) := by
 refine Qd Tryz.func188 Y Tryz.ntmps188 Y Tryz.call188 ?_
 intro a w M1 H hM1 S E
 replace h0 := h0.le hM1
 replace h1 := h1.le hM1
 refine Qs ?_
 refine Qk (QA (cs := #[v0]) E S Y Y (cells_one h0.1) ?_)
 clear E a S; rintro a w a5 E S
 obtain ⟨a6, a1, a2, S⟩ := S.freezeB
 replace h0 := h0.le a1
 replace h1 := h1.le a1
 refine Qk (QA (cs := #[v1]) E S Y Y (cells_one h1.1) ?_)
 clear E a S; rintro a w a7 E S
 obtain ⟨a3, a0, a4, S⟩ := S.freezeB
 replace h0 := h0.le a0
 replace h1 := h1.le a0
 replace a2 := a0.2 _ _ a2
 refine Qj E Y fun _ B => QI (Qv B Y Y fun _ C => Qj C Y ?_)
 clear E a B C; intro a E
 refine Jj ?_
 exact Qa E Tryz.results188 Y ⟨_, Y, a3, (a1.trans a0), (Jy (yS (f1 := f1) h0 h1 (by (omega)) a2 a4) (by (rfl))), S⟩
theorem qi {M : Hp} {kk8 kn8 : Int} (gk8 : -9223372036854775808 ≤ kn8 ∧ kn8 ≤ 9223372036854775807) {bx8 : Nat} (hbx8 : M bx8 = some (.cells #[.int .i64 kk8, .int .i64 kn8] 30)) {pk9 pn9 : Int} {w9 : Value} {pl9 : List Int} (hw9 : Qy M w9 pl9) (gn9 : -9223372036854775808 ≤ pn9 ∧ pn9 ≤ 9223372036854775807) {bx9 : Nat} (hbx9 : M bx9 = some (.cells #[.int .i64 pk9, .int .i64 pn9, w9] 27)) {x0 x1 : Int} :
  Pu Tryz.prog (.func (.func 189) #[] #[.pointer (some ⟨bx8, 0, none⟩), .pointer (some ⟨bx9, 0, none⟩)]) M [.int .i64 x0, .int .i64 x1] (fun r M' => r = .tuple #[.int .i64 (JL kk8 kn8 x0 x1), .bool (Jv pk9 pn9 pl9 x0 x1)]) := by
 refine Qd Tryz.func189 Y Tryz.ntmps189 Y Tryz.call189 ?_
 intro a w M1 H hM1 S E
 replace hbx8 := hM1.2 _ _ hbx8
 replace hbx9 := hM1.2 _ _ hbx9
 replace hw9 := hw9.le hM1
 refine Qs (QD 2 E Y ?_)
 clear E a; intro a E
 refine ZJ ?_
 have hbx8k0 := hbx8
 have hbx9k0 := hbx9
 replace S := S.mono_heap (w' := World.drew _) rfl
 refine Jb (C := fun x w => agree M1 w) (bf := (fun i => [])) [0, 1, 2, 4, 5, 6, 8, 9] [0, 1, 2, 4, 5, 6, 3, 7, 8, 9] Tryz.mixed (by kernel_rfl) (fun x hq => S.imm) ?_
 refine QU E Y (fun w hC => (ZW E Y (Tryz.isAgg30 _) (Tryz.sizeOf30 _) hC hbx8k0)) fun _ B => QU B Y (fun w hC => (QL B Y)) fun _ D => QU D Y (fun w hC => (QL D Y)) fun _ F => QU F Y (fun w hC => (ZW F Y (Tryz.isAgg27 _) (Tryz.sizeOf27 _) hC hbx9k0)) fun _ G => QU G Y (fun w hC => (QL G Y)) fun _ I => QU I Y (fun w hC => (QL I Y)) ?_
 clear E a B D F G I; intro a E
 refine ZP Y Y Y (Qm E S Y Y Y (Gl (by omega)) lerf ?_)
 clear E a S; rintro a _ w a3 a0 rfl S E
 replace hw9 := hw9.le a0
 refine ⟨fun x hq hb => (Qu a0 S.imm), ?_⟩
 refine ZP Y Y Y (Qm E S Y Y Y (jc hw9 (by omega)) lerf ?_)
 clear E a S; rintro a _ w a2 a1 rfl S E
 refine ⟨fun x hq hb => (Qu (a0.trans a1) S.imm), ?_⟩
 refine QU E Y (fun w hC => (Jx E Y)) fun _ B => QU B Y (fun w hC => (Jx B Y)) ?_
 clear E a B; intro a E
 refine JI (JH ?_)
 refine JZ (QM ?_)
 exact Zr E Tryz.results189 Y Y ⟨_, Y, a2, (a0.trans a1), (by rfl), S⟩
theorem qY {M : Hp} {v0 : Value} {l0 : List Int} (h0 : Qy M v0 l0){pk1 pn1 : Int} {w1 : Value} {pl1 : List Int} (hw1 : Qy M w1 pl1) (gn1 : -9223372036854775808 ≤ pn1 ∧ pn1 ≤ 9223372036854775807) {kk2 kn2 : Int} (gk2 : -9223372036854775808 ≤ kn2 ∧ kn2 ≤ 9223372036854775807) (hb : l0.length ≤ 1000000000000) :
  Pu Tryz.prog (.func (.func 72) #[] #[]) M [v0, .agg #[.int .i64 pk1, .int .i64 pn1, w1], .agg #[.int .i64 kk2, .int .i64 kn2]] (fun r M' => Qy M' r (Zt (fun x i => (JL kk2 kn2 x i, Jv pk1 pn1 pl1 x i)) 0 l0)) := by
 refine Qd Tryz.func72 Y Tryz.ntmps72 Y Tryz.call72 ?_
 intro a w M1 H hM1 S E
 replace h0 := h0.le hM1
 replace hw1 := hw1.le hM1
 have b0 := h0.bound
 have hfl := GA (fun x i => (JL kk2 kn2 x i, Jv pk1 pn1 pl1 x i)) l0 0
 refine Qs ?_
 refine Qk (QA (cs := #[.int .i64 pk1, .int .i64 pn1, w1]) E S Y Y Y ?_)
 clear E a S; rintro a w b2 E S
 obtain ⟨b3, a3, a0, S⟩ := S.freezeB
 replace h0 := h0.le a3
 replace hw1 := hw1.le a3
 refine Qk (QA (cs := #[.int .i64 kk2, .int .i64 kn2]) E S Y Y Y ?_)
 clear E a S; rintro a w b4 E S
 obtain ⟨b5, a1, a4, S⟩ := S.freezeB
 replace h0 := h0.le a1
 replace hw1 := hw1.le a1
 replace a0 := a1.2 _ _ a0
 refine Qj E Y fun _ B => QI (Qn B Y ?_)
 clear E a B; intro a E
 refine Qk (Qm E S Y Y Y (QG h0) lerf ?_)
 clear E a S; rintro a b6 w b7 a2 a5 S E
 replace hw1 := hw1.le a2
 replace a0 := a2.2 _ _ a0
 replace a4 := a2.2 _ _ a4
 refine Qv E Y Y ?_
 clear E a; intro a E
 refine Qk (Qm E S Y Y Y (it_FilterMapI a5 (f1 := (fun x i => (JL kk2 kn2 x i, Jv pk1 pn1 pl1 x i))) ⟨Y, fun zx0 zx1 => qi (x0 := zx0) (x1 := zx1) (by omega) a4 hw1 (by omega) a0⟩ (by (omega))) lerf ?_)
 clear E a S; rintro a b8 w b9 a6 a7 S E
 refine Qk (Qm E S Y Y Y (QJ a7 (by omega)) lerf ?_)
 clear E a S; rintro a c0 w a8 a9 b1 S E
 refine Qj E Y ?_
 clear E a; intro a E
 refine Jj ?_
 exact Qa E Tryz.results72 Y ⟨_, Y, a8, (a3.trans (a1.trans (a2.trans (a6.trans a9)))), b1, S⟩
theorem it_FlatMapI1 {M : Hp} {v0 : Value} {l0 : List Int} (h0 : Jh Tryz.prog v0 M (QB) l0) {v1 : Value} {f1 : Int → Int → List Int} (h1 : PF2Q Tryz.prog v1 M f1) (hb : l0.length ≤ 1000000000) {bx8 bx9 : Nat} (hbx8 : M bx8 = some (.cells #[v0] 62)) (hbx9 : M bx9 = some (.cells #[v1] 103)) :
  Jh Tryz.prog (.func (.func 270) #[] #[.pointer (some ⟨bx8, 0, none⟩), .pointer (some ⟨bx9, 0, none⟩)]) M (QB) (Zu f1 0 l0) := by
 refine Jw Tryz.func270 Y Tryz.ntmps270 Y Tryz.call270 ?_
 intro y J X a w M1 c H hJM hM1 hY hJ S E
 replace h0 := h0.le hM1
 replace h1 := h1.le hM1
 replace hbx8 := hM1.2 _ _ hbx8
 replace hbx9 := hM1.2 _ _ hbx9
 refine Qs ?_
 refine Qk (QA (cs := #[y]) E S Y Y (cells_one hY.1) ?_)
 clear E a S; rintro a w a4 E S
 obtain ⟨c4, a1, a2, S⟩ := S.freezeB
 replace h0 := h0.le a1
 replace h1 := h1.le a1
 replace hbx8 := a1.2 _ _ hbx8
 replace hbx9 := a1.2 _ _ hbx9
 replace hJ := hJM _ _ _ _ a1 hJ
 refine QI ?_
 refine Qk (Ja (cs := #[.int .i64 0]) E S Y Tryz.zeroValue3 Y ?_)
 clear E a S; rintro a w a0 E S
 refine QI (Qb E Y Tryz.isAgg62 S.imm (Qf hbx8) ?_)
 clear E a; intro a E
 refine ZH ?_
 replace S := S.front2.front1
 replace E := E.keep (l' := [(2, .pointer (some ⟨bx9, 0, none⟩)), (3, .pointer (some ⟨a4, 0, none⟩)), (4, .pointer (some ⟨a0, 0, none⟩)), (7, v0)]) ⟨Y, Y, Y, Y, trivial⟩
 replace S := S.front1.front1
 replace S := S.blk_int (j := ((([] : List Int)).length : Int)) (by ((simp; done)))
 have S0 := S; clear S; have S := St.pack [Jk a0 (.cells #[.int .i64 ((([] : List Int)).length : Int)] 3), c] S0; clear S0
 refine JK (RV := QB) (l := l0) (fun pre M c => ∃ (c0 : Qr), c = Yf [Jk a0 (.cells #[.int .i64 ((pre).length : Int)] 3), c0] ∧ (J (Zu f1 0 (pre)) M c0)) (fun cd pre M c => cd = .ret ∧ ∃ z, z <+: (Zu f1 0 l0) ∧ X z M c) E S Y h0 lerf (fun _ _ _ h => by rw [h]; rfl) (by decide) (by rintro _ M M' c hM ⟨c0, rfl, f0⟩; exact ⟨_, rfl, hJM _ _ _ _ hM f0⟩) ⟨_, rfl, Ju hJ (by (rfl))⟩ ?_ ?_ ?_
 clear E S
 ·rintro lb_5 rec_6 pre x _ a w c5 _ G a5 b1 rfl ⟨c0, rfl, f0⟩ E S
  replace E : Env a 20 [] [(8, .int .i64 x), (2, .pointer (some ⟨bx9, 0, none⟩)), (3, .pointer (some ⟨a4, 0, none⟩)), (4, .pointer (some ⟨a0, 0, none⟩)), (7, v0)] := E
  replace S := S.swap.unpack2
  have hq0 := Js b1
  replace h1 := h1.le a5
  replace hbx9 := a5.2 _ _ hbx9
  replace a2 := a5.2 _ _ a2
  refine Qh (Qj E Y ?_)
  clear E a; intro a E
  refine Qz ?_
  replace S := S.front2
  refine rb S ?_
  clear S; intro w S
  refine QW (UK (Qb E Y Tryz.isAgg103 S.imm (Qf hbx9) fun _ B => Qn B Y fun _ C => QH C Y (Tryz.isAgg3 _) (Qo (S.mem (.tail _ (.head _)))) ?_))
  clear E a B C; intro a E
  refine Qk (Qm E S Y Y Y (h1.2 x ((pre).length : Int)) lerf ?_)
  clear E a S; rintro a a8 w c6 a3 b2 S E
  replace a2 := a3.2 _ _ a2
  replace f0 := hJM _ _ _ _ a3 f0
  refine ZH ?_
  replace S := S.front2.front2
  replace E := E.keep (l' := [(3, .pointer (some ⟨a4, 0, none⟩)), (4, .pointer (some ⟨a0, 0, none⟩)), (12, a8)]) ⟨Y, Y, Y, trivial⟩
  replace S := S.front1.front1
  have S0 := S; clear S; have S := St.pack [Jk a0 (.cells #[.int .i64 ((pre).length : Int)] 3), c0] S0; clear S0
  refine WP_range' (RV := QB) (l := f1 x ((pre).length : Int)) (fun pre2 M c => ∃ (c1 : Qr), c = Yf [Jk a0 (.cells #[.int .i64 ((pre).length : Int)] 3), c1] ∧ (J (Zu f1 0 pre ++ pre2) M c1)) (fun cd pre2 M c => cd = .ret ∧ ∃ z, z <+: (Zu f1 0 l0) ∧ X z M c) E S Y b2 lerf (fun _ _ _ h => by rw [h]; rfl) (by decide) (by rintro _ M M' c hM ⟨c1, rfl, f0⟩; exact ⟨_, rfl, hJM _ _ _ _ hM f0⟩) ⟨_, rfl, Ju f0 (by ((try clear S); (try clear E); (simp; done)))⟩ ?_ ?_ ?_
  clear E S
  ·rintro lb_12 rec_13 pre2 x2 _ a w c7 _ G a9 b3 rfl ⟨c1, rfl, f0⟩ E S
   replace E : Env a 20 [] [(13, .int .i64 x2), (3, .pointer (some ⟨a4, 0, none⟩)), (4, .pointer (some ⟨a0, 0, none⟩)), (12, a8)] := E
   replace S := S.swap.unpack2
   have hq1 := Js b3
   replace a2 := a9.2 _ _ a2
   refine Qh (Qj E Y ?_)
   clear E a; intro a E
   refine Qz ?_
   replace S := S.front2
   refine rb S ?_
   clear S; intro w S
   refine QW (Qs (Qb E Y Tryz.isAgg95 S.imm (Qf a2) fun _ B => Qn B Y ?_))
   clear E a B; intro a E
   replace S := S.front2
   refine Qk (JC (x := x2) E S Y Y Y hY (a1.trans (a5.trans (a3.trans a9))) (by (rw [List.append_assoc]; exact zf (by assumption) (by assumption))) Y f0 ?_)
   clear E a S; rintro a w a6 a7 go_18 b0 f0 S E
   cases go_18
   ·replace f0 : X (Zu f1 0 pre ++ pre2 ++ [x2]) a6 a7 := f0
    refine Ji E Y ?_
    clear E a; intro a E
    refine Qz ?_
    refine QY E Y Y ?_
    refine QM (ZC ?_)
    replace S := S.front2.drop.front1
    exact ⟨a6, _, b0, ⟨Y, _, (by ((rw [List.append_assoc]; exact zf (by assumption) (by assumption)))), f0⟩, S⟩
   ·replace f0 : J (Zu f1 0 pre ++ pre2 ++ [x2]) a6 a7 := f0
    refine Ji E Y ?_
    clear E a; intro a E
    refine Qz ?_
    refine QF E Y Y ?_
    refine Qx (ZK ?_)
    replace S := S.front2.front1.front1
    have S0 := S; clear S; have S := (St.pack [Jk a0 (.cells #[.int .i64 ((pre).length : Int)] 3), a7] S0).swap; clear S0
    exact ⟨a6, _, b0, ⟨_, Y, Ju f0 (by (rw [List.append_assoc]))⟩, S⟩
  ·rintro a w b4 _ b5 ⟨c1, rfl, f0⟩ S E
   replace S := S.unpack2
   refine WN (QH E Y (Tryz.isAgg3 _) (Qo (S.mem (.head _))) fun _ B => Qp (m := (((pre).length + 1 : Nat) : Int)) B Y Y ?_)
   clear E a B; intro a E
   refine Jm (QS E S Y Y (Tryz.sizeOf3 _) Y ?_)
   clear E a S; rintro a w E S
   refine Jz (ZK ?_)
   replace S := S.front1.front1.front1.front1
   replace S := S.blk_int (j := (((pre ++ [x])).length : Int)) (by ((simp; done)))
   have S0 := S; clear S; have S := (St.pack [Jk a0 (.cells #[.int .i64 (((pre ++ [x])).length : Int)] 3), c1] S0).swap; clear S0
   exact ⟨b4, _, (a3.trans b5), ⟨_, Y, Ju f0 (by (rw [ql]))⟩, S⟩
  ·rintro a w b6 c_ c8 _ b7 c9 ⟨rfl, z_, hz_, f0⟩ S E
   refine QM (ZC (UA (ZC ?_)))
   replace S := S.front1
   exact ⟨b6, _, (a3.trans b7), ⟨Y, _, (by assumption), f0⟩, S⟩
 ·rintro a w b8 _ D_26 b9 ⟨c0, rfl, f0⟩ S E
  replace S := S.unpack2
  refine ZK (Yh ?_)
  replace S := S.drop.front1
  have hpre : Zu f1 0 (l0) = Zu f1 0 l0 := by (rfl)
  rw [hpre] at f0
  exact QR E S Tryz.results270 (fun w S => ⟨_, Y, b8, _, (a1.trans b9), .inl f0, S⟩)
 ·rintro a w c2 c_ D_28 d0 _ c3 d1 ⟨rfl, z_, hz_, f0⟩ S E
  refine QM (ZC ?_)
  replace S := S.front1
  exact QR E S Tryz.results270 (fun w S => ⟨_, Y, c2, _, (a1.trans c3), .inr ⟨z_, (by assumption), f0⟩, S⟩)
theorem it_FlatMapI {M : Hp} {v0 : Value} {l0 : List Int} (h0 : Jh Tryz.prog v0 M (QB) l0) {v1 : Value} {f1 : Int → Int → List Int} (h1 : PF2Q Tryz.prog v1 M f1) (hb : l0.length ≤ 1000000000) :
  Pu Tryz.prog (.func (.func 190) #[] #[]) M [v0, v1] (fun r M' => Jh Tryz.prog r M' QB (Zu f1 0 l0)) := by
 refine Qd Tryz.func190 Y Tryz.ntmps190 Y Tryz.call190 ?_
 intro a w M1 H hM1 S E
 replace h0 := h0.le hM1
 replace h1 := h1.le hM1
 refine Qs ?_
 refine Qk (QA (cs := #[v0]) E S Y Y (cells_one h0.1) ?_)
 clear E a S; rintro a w a5 E S
 obtain ⟨a6, a1, a2, S⟩ := S.freezeB
 replace h0 := h0.le a1
 replace h1 := h1.le a1
 refine Qk (QA (cs := #[v1]) E S Y Y (cells_one h1.1) ?_)
 clear E a S; rintro a w a7 E S
 obtain ⟨a3, a0, a4, S⟩ := S.freezeB
 replace h0 := h0.le a0
 replace h1 := h1.le a0
 replace a2 := a0.2 _ _ a2
 refine Qj E Y fun _ B => QI (Qv B Y Y fun _ C => Qj C Y ?_)
 clear E a B C; intro a E
 refine Jj ?_
 exact Qa E Tryz.results190 Y ⟨_, Y, a3, (a1.trans a0), (Jy (it_FlatMapI1 (f1 := f1) h0 h1 (by (omega)) a2 a4) (by (rfl))), S⟩
theorem zQ {M : Hp} {kk9 kn9 : Int} (gk9 : -9223372036854775808 ≤ kn9 ∧ kn9 ≤ 9223372036854775807) {bx9 : Nat} (hbx9 : M bx9 = some (.cells #[.int .i64 kk9, .int .i64 kn9] 30)) {x0 x1 : Int} :
  Pu Tryz.prog (.func (.func 191) #[] #[.pointer (some ⟨bx9, 0, none⟩)]) M [.int .i64 x0, .int .i64 x1] (fun r M' => Jh Tryz.prog r M' QB [x0, JL kk9 kn9 x0 x1]) := by
 refine Qd Tryz.func191 Y Tryz.ntmps191 Y Tryz.call191 ?_
 intro a w M1 H hM1 S E
 replace hbx9 := hM1.2 _ _ hbx9
 refine Qs (Qj E Y fun _ B => QI (Qn B Y fun _ C => Za C Y (Tryz.isAgg30 _) (Tryz.sizeOf30 _) S.imm hbx9 fun _ D => QD 2 D Y ?_))
 clear E a B C D; intro a E
 refine Qk (Qm E S Y Y Y (Gl (by omega)) lerf ?_)
 clear E a S; rintro a _ w a6 a0 rfl S E
 refine Qk (QV (ys := [x0, JL kk9 kn9 x0 x1]) E S Y QE Y Y Y ?_)
 clear E a S; rintro a w a7 E S
 have S0 := S; clear S
 obtain ⟨a8, a1, a2, S⟩ := S0.freezeI (by ((simp; done)))
 clear S0
 refine Qk (Qm E S Y Y Y (QG a2) lerf ?_)
 clear E a S; rintro a a9 w a3 a4 a5 S E
 refine Qj E Y ?_
 clear E a; intro a E
 refine Jj ?_
 exact Qa E Tryz.results191 Y ⟨_, Y, a3, (a0.trans (a1.trans a4)), a5, S⟩
theorem jI {M : Hp} {v0 : Value} {l0 : List Int} (h0 : Qy M v0 l0){kk1 kn1 : Int} (gk1 : -9223372036854775808 ≤ kn1 ∧ kn1 ≤ 9223372036854775807) (hb : l0.length ≤ 1000000000) :
  Pu Tryz.prog (.func (.func 73) #[] #[]) M [v0, .agg #[.int .i64 kk1, .int .i64 kn1]] (fun r M' => Qy M' r (Zu (fun x i => [x, JL kk1 kn1 x i]) 0 l0)) := by
 refine Qd Tryz.func73 Y Tryz.ntmps73 Y Tryz.call73 ?_
 intro a w M1 H hM1 S E
 replace h0 := h0.le hM1
 have b0 := h0.bound
 have hfl := GB (f := (fun x i => [x, JL kk1 kn1 x i])) (fun _ _ => rfl) (l0) 0
 refine Qs ?_
 refine Qk (QA (cs := #[.int .i64 kk1, .int .i64 kn1]) E S Y Y Y ?_)
 clear E a S; rintro a w a9 E S
 obtain ⟨b1, a1, a0, S⟩ := S.freezeB
 replace h0 := h0.le a1
 refine Qj E Y fun _ B => QI (Qn B Y ?_)
 clear E a B; intro a E
 refine Qk (Qm E S Y Y Y (QG h0) lerf ?_)
 clear E a S; rintro a b2 w b3 a2 a3 S E
 replace a0 := a2.2 _ _ a0
 refine Qv E Y Y ?_
 clear E a; intro a E
 refine Qk (Qm E S Y Y Y (it_FlatMapI a3 (f1 := (fun x i => [x, JL kk1 kn1 x i])) ⟨Y, fun zx0 zx1 => zQ (x0 := zx0) (x1 := zx1) (by omega) a0⟩ (by (omega))) lerf ?_)
 clear E a S; rintro a b4 w b5 a4 a5 S E
 refine Qk (Qm E S Y Y Y (QJ a5 (by omega)) lerf ?_)
 clear E a S; rintro a b6 w a6 a7 a8 S E
 refine Qj E Y ?_
 clear E a; intro a E
 refine Jj ?_
 exact Qa E Tryz.results73 Y ⟨_, Y, a6, (a1.trans (a2.trans (a4.trans a7))), a8, S⟩
theorem it_UniqBy1 {M : Hp} {v0 : Value} {l0 : List Int} (h0 : Jh Tryz.prog v0 M (QB) l0) {v1 : Value} {f1 : Int → Int} (h1 : jd Tryz.prog v1 M f1) {bx1 : Nat} (hbx1 : M bx1 = some (.cells #[v0] 62)) {bx2 : Nat} (hbx2 : M bx2 = some (.cells #[v1] 90)) :
  Jh Tryz.prog (.func (.func 272) #[] #[.pointer (some ⟨bx1, 0, none⟩), .pointer (some ⟨bx2, 0, none⟩)]) M (QB) ((Zm f1 l0).2) := by
 refine Jw Tryz.func272 Y Tryz.ntmps272 Y Tryz.call272 ?_
 intro y J X a w M1 c H hJM hM1 hY hJ S E
 replace h0 := h0.le hM1
 replace h1 := h1.le hM1
 replace hbx1 := hM1.2 _ _ hbx1
 replace hbx2 := hM1.2 _ _ hbx2
 refine Qs ?_
 refine Qk (QA (cs := #[y]) E S Y Y (cells_one hY.1) ?_)
 clear E a S; rintro a w a9 E S
 obtain ⟨b2, a1, a2, S⟩ := S.freezeB
 replace h0 := h0.le a1
 replace h1 := h1.le a1
 replace hbx1 := a1.2 _ _ hbx1
 replace hbx2 := a1.2 _ _ hbx2
 replace hJ := hJM _ _ _ _ a1 hJ
 refine QI ?_
 refine Qk (Uw E S Y ?_)
 clear E a S; rintro a w a0 E S
 replace S : St w b2 (Zg a0 ([] : List Int) :: _) := S
 refine Qk (Ja (cs := #[.map none]) E S Y Tryz.zeroValue116 Y ?_)
 clear E a S; rintro a w a3 E S
 refine Jm (QS E S Y Y (Tryz.sizeOf116 _) Y ?_)
 clear E a S; rintro a w E S
 refine QI (Qb E Y Tryz.isAgg62 S.imm (Qf hbx1) ?_)
 clear E a; intro a E
 refine ZH ?_
 replace S := S.front3.front2.front2
 replace E := E.keep (l' := [(2, .pointer (some ⟨bx2, 0, none⟩)), (3, .pointer (some ⟨a9, 0, none⟩)), (4, .pointer (some ⟨a3, 0, none⟩)), (10, v0)]) ⟨Y, Y, Y, Y, trivial⟩
 replace S := S.front2.front2
 replace S := S.reM (L' := (Sl.encS ((Zm f1 (([] : List Int))).1))) (congrArg Sl.encS (show ([] : List Int) = (Zm f1 (([] : List Int))).1 by first | (simp [Zm]; done) | (refine uqa_out ?_; first | assumption | (simp_all; done)) | (refine uqa_in ?_; first | assumption | (simp_all; done))))
 replace S := S.front2
 have S0 := S; clear S; have S := St.pack [Jk a3 (.cells #[.map (some a0)] 116), Zg a0 ((Zm f1 (([] : List Int))).1), c] S0; clear S0
 refine JK (RV := QB) (l := l0) (fun pre M c => ∃ (c0 : Qr), c = Yf [Jk a3 (.cells #[.map (some a0)] 116), Zg a0 ((Zm f1 (pre)).1), c0] ∧ (J ((Zm f1 (pre)).2) M c0)) (fun cd pre M c => cd = .ret ∧ ∃ z, z <+: ((Zm f1 l0).2) ∧ X z M c) E S Y h0 lerf (fun _ _ _ h => by rw [h]; rfl) (by decide) (by rintro _ M M' c hM ⟨c0, rfl, f0⟩; exact ⟨_, rfl, hJM _ _ _ _ hM f0⟩) ⟨_, rfl, Ju hJ (by (simp [Zm]))⟩ ?_ ?_ ?_
 clear E S
 ·rintro lb_6 rec_7 pre x _ a w c2 _ G a6 b3 rfl ⟨c0, rfl, f0⟩ E S
  replace E : Env a 30 [] [(11, .int .i64 x), (2, .pointer (some ⟨bx2, 0, none⟩)), (3, .pointer (some ⟨a9, 0, none⟩)), (4, .pointer (some ⟨a3, 0, none⟩)), (10, v0)] := E
  replace S := S.swap.unpack3
  have hq0 := Js b3
  replace h1 := h1.le a6
  replace hbx2 := a6.2 _ _ hbx2
  replace a2 := a6.2 _ _ a2
  refine Qh (Qj E Y ?_)
  clear E a; intro a E
  refine Qz ?_
  replace S := S.front3
  refine rb S ?_
  clear S; intro w S
  refine QW (Qs (Qb E Y Tryz.isAgg90 S.imm (Qf hbx2) fun _ B => Qn B Y ?_))
  clear E a B; intro a E
  refine Qk (Qm E S Y Y Y (h1.2 x) lerf ?_)
  clear E a S; rintro a _ w b0 a4 rfl S E
  replace a2 := a4.2 _ _ a2
  replace f0 := hJM _ _ _ _ a4 f0
  refine Qj E Y fun _ B => QI (QH B Y (Tryz.isAgg116 _) (Qo (S.mem (.tail _ (.head _)))) fun _ C => Qn C Y ?_)
  clear E a B C; intro a E
  replace S := S.front2
  refine Qk (Ya E S Y Yp Y Y ?_)
  clear E a S; rintro a w E S
  replace S : St w b0 (Zg a0 ((Zm f1 (pre)).1) :: _) := S
  refine Qn E Y fun _ B => Qg B Y Y fun _ C => Qg C Y Y ?_
  clear E a B C; intro a E
  refine Qk (Ja (cs := #[]) E S Y Tryz.zeroValue117 Y ?_)
  clear E a S; rintro a w b4 E S
  refine Jm (Zv (us := []) E S Y Y (Tryz.sizeOf117 _) Y (by intro u hu; cases hu) ?_)
  clear E a S; rintro a w E S
  replace S : St w b0 (Jk b4 (.cells #[] 117) :: _) := S
  have S0 := S; clear S
  obtain ⟨b5, a5, c3, S⟩ := S0.freezeB
  clear S0
  replace a2 := a5.2 _ _ a2
  replace f0 := hJM _ _ _ _ a5 f0
  refine Qj E Y fun _ B => QI (Qn B Y fun _ C => Ji C Y ?_)
  clear E a B C; intro a E
  refine Qz ?_
  refine Jf E Y (fun b6 => ?_) (fun b6 => ?_)
  ·refine Je ?_
   refine Qs (Qb E Y Tryz.isAgg95 S.imm (Qf a2) fun _ B => Qn B Y ?_)
   clear E a B; intro a E
   replace S := S.front3
   refine Qk (JC (x := x) E S Y Y Y hY (a1.trans (a6.trans (a4.trans a5))) (by (refine uqp (by assumption) ?_; first | assumption | (simp_all; done))) Y f0 ?_)
   clear E a S; rintro a w a7 a8 go_17 b1 f0 S E
   cases go_17
   ·replace f0 : X ((Zm f1 (pre)).2 ++ [x]) a7 a8 := f0
    refine Ji E Y ?_
    clear E a; intro a E
    refine Qz ?_
    refine QY E Y Y ?_
    refine QM (UA (ZC ?_))
    replace S := S.front1.drop.front2.drop.front1
    exact ⟨a7, _, (a4.trans (a5.trans b1)), ⟨Y, _, (by ((refine uqp (by assumption) ?_; first | assumption | (simp_all; done)))), f0⟩, S⟩
   ·replace f0 : J ((Zm f1 (pre)).2 ++ [x]) a7 a8 := f0
    refine Ji E Y ?_
    clear E a; intro a E
    refine Qz ?_
    refine QF E Y Y ?_
    refine Qx (JZ (Qh (QH E Y (Tryz.isAgg116 _) (Qo (S.mem (.tail _ (.tail _ (.tail _ (.head _)))))) fun _ B => Qn B Y fun _ C => UI (u := .agg #[]) (vs := []) C Y (fun w => WG  w) ?_)))
    clear E a B C; intro a E
    replace S := S.front1
    refine Jm (VQ E S Yp Y Y Y ?_)
    clear E a S; rintro a w E S
    refine Jz (ZK ?_)
    replace S := S.front1.front1.front3.front2.front2
    replace S := S.reM (L' := (Sl.encS ((Zm f1 ((pre ++ [x]))).1))) (congrArg Sl.encS (show Ym ((Zm f1 (pre)).1) (f1 x) = (Zm f1 ((pre ++ [x]))).1 by first | (simp [Zm]; done) | (refine uqa_out ?_; first | assumption | (simp_all; done)) | (refine uqa_in ?_; first | assumption | (simp_all; done))))
    replace S := S.front2
    have S0 := S; clear S; have S := (St.pack [Jk a3 (.cells #[.map (some a0)] 116), Zg a0 ((Zm f1 ((pre ++ [x]))).1), a8] S0).swap; clear S0
    exact ⟨a7, _, (a4.trans (a5.trans b1)), ⟨_, Y, Ju f0 (by ((refine uqb_out ?_; first | assumption | (simp_all; done))))⟩, S⟩
  ·refine Qx ?_
   refine ZK ?_
   replace S := S.front3.front1.front3.front2.front2
   replace S := S.reM (L' := (Sl.encS ((Zm f1 ((pre ++ [x]))).1))) (congrArg Sl.encS (show (Zm f1 (pre)).1 = (Zm f1 ((pre ++ [x]))).1 by first | (simp [Zm]; done) | (refine uqa_out ?_; first | assumption | (simp_all; done)) | (refine uqa_in ?_; first | assumption | (simp_all; done))))
   replace S := S.front2
   have S0 := S; clear S; have S := (St.pack [Jk a3 (.cells #[.map (some a0)] 116), Zg a0 ((Zm f1 ((pre ++ [x]))).1), c0] S0).swap; clear S0
   exact ⟨b5, _, (a4.trans a5), ⟨_, Y, Ju f0 (by ((refine uqb_in ?_; first | assumption | (simp_all; done))))⟩, S⟩
 ·rintro a w b7 _ D_19 b8 ⟨c0, rfl, f0⟩ S E
  replace S := S.unpack3
  refine ZK (Yh ?_)
  replace S := S.drop.drop.front1
  have hpre : (Zm f1 (l0)).2 = (Zm f1 l0).2 := by (rfl)
  rw [hpre] at f0
  exact QR E S Tryz.results272 (fun w S => ⟨_, Y, b7, _, (a1.trans b8), .inl f0, S⟩)
 ·rintro a w b9 c_ D_21 c4 _ c1 c5 ⟨rfl, z_, hz_, f0⟩ S E
  refine QM (ZC ?_)
  replace S := S.front1
  exact QR E S Tryz.results272 (fun w S => ⟨_, Y, b9, _, (a1.trans c1), .inr ⟨z_, (by assumption), f0⟩, S⟩)
theorem it_UniqBy {M : Hp} {v0 : Value} {l0 : List Int} (h0 : Jh Tryz.prog v0 M (QB) l0) {v1 : Value} {f1 : Int → Int} (h1 : jd Tryz.prog v1 M f1) :
  Pu Tryz.prog (.func (.func 193) #[] #[]) M [v0, v1] (fun r M' => Jh Tryz.prog r M' QB ((Zm f1 l0).2)) := by
 refine Qd Tryz.func193 Y Tryz.ntmps193 Y Tryz.call193 ?_
 intro a w M1 H hM1 S E
 replace h0 := h0.le hM1
 replace h1 := h1.le hM1
 refine Qs ?_
 refine Qk (QA (cs := #[v0]) E S Y Y (cells_one h0.1) ?_)
 clear E a S; rintro a w a5 E S
 obtain ⟨a6, a1, a2, S⟩ := S.freezeB
 replace h0 := h0.le a1
 replace h1 := h1.le a1
 refine Qk (QA (cs := #[v1]) E S Y Y (cells_one h1.1) ?_)
 clear E a S; rintro a w a7 E S
 obtain ⟨a3, a0, a4, S⟩ := S.freezeB
 replace h0 := h0.le a0
 replace h1 := h1.le a0
 replace a2 := a0.2 _ _ a2
 refine Qj E Y fun _ B => QI (Qv B Y Y fun _ C => Qj C Y ?_)
 clear E a B C; intro a E
 refine Jj ?_
 exact Qa E Tryz.results193 Y ⟨_, Y, a3, (a1.trans a0), (Jy (it_UniqBy1 (f1 := f1) h0 h1 a2 a4) (by (rfl))), S⟩
theorem it_Uniq1_ {M : Hp} {x0 : Int} :
  Pu Tryz.prog (.func (.func 271) #[] #[]) M [.int .i64 x0] (fun r M' => r = .int .i64 x0) := by
 refine Qd Tryz.func271 Y Tryz.ntmps271 Y Tryz.call271 ?_
 intro a w M1 H hM1 S E
 refine Qs (Qj E Y fun _ B => QI (QD 2 B Y ?_))
 clear E a B; intro a E
 refine Jj ?_
 exact Qa E Tryz.results271 Y ⟨_, Y, M1, lerf, Y, S⟩
theorem it_Uniq_ {M : Hp} {v0 : Value} {l0 : List Int} (h0 : Jh Tryz.prog v0 M (QB) l0) :
  Pu Tryz.prog (.func (.func 192) #[] #[]) M [v0] (fun r M' => Jh Tryz.prog r M' QB ((Zm (fun x => x) l0).2)) := by
 refine Qd Tryz.func192 Y Tryz.ntmps192 Y Tryz.call192 ?_
 intro a w M1 H hM1 S E
 replace h0 := h0.le hM1
 refine Qs (Qj E Y fun _ B => QI (Qn B Y ?_))
 clear E a B; intro a E
 refine Qk (Qm E S Y Y Y (it_UniqBy h0 ⟨Y, fun zx0 => it_Uniq1_ (x0 := zx0) ⟩) lerf ?_)
 clear E a S; rintro a a3 w a0 a1 a2 S E
 refine Qj E Y ?_
 clear E a; intro a E
 refine Jj ?_
 exact Qa E Tryz.results192 Y ⟨_, Y, a0, a1, a2, S⟩
theorem impl_UniqSeq {M : Hp} {v0 : Value} {l0 : List Int} (h0 : Qy M v0 l0) (hb : l0.length ≤ 1000000000000) :
  Pu Tryz.prog (.func (.func 74) #[] #[]) M [v0] (fun r M' => Qy M' r ((Zm (fun x => x) l0).2)) := by
 refine Qd Tryz.func74 Y Tryz.ntmps74 Y Tryz.call74 ?_
 intro a w M1 H hM1 S E
 replace h0 := h0.le hM1
 have b0 := h0.bound
 have hul := Wm (fun x => x) l0
 refine Qs (Qj E Y fun _ B => QI (Qn B Y ?_))
 clear E a B; intro a E
 refine Qk (Qm E S Y Y Y (QG h0) lerf ?_)
 clear E a S; rintro a a7 w a8 a0 a1 S E
 refine Qk (Qm E S Y Y Y (it_Uniq_ a1) lerf ?_)
 clear E a S; rintro a a9 w b1 a2 a3 S E
 refine Qk (Qm E S Y Y Y (QJ a3 (by omega)) lerf ?_)
 clear E a S; rintro a b2 w a4 a5 a6 S E
 refine Qj E Y ?_
 clear E a; intro a E
 refine Jj ?_
 exact Qa E Tryz.results74 Y ⟨_, Y, a4, (a0.trans (a2.trans a5)), a6, S⟩
theorem yY {M : Hp} {v0 : Value} {l0 : List Int} (h0 : Qy M v0 l0){kk1 kn1 : Int} (gk1 : -9223372036854775808 ≤ kn1 ∧ kn1 ≤ 9223372036854775807) (hb : l0.length ≤ 1000000000000) :
  Pu Tryz.prog (.func (.func 75) #[] #[]) M [v0, .agg #[.int .i64 kk1, .int .i64 kn1]] (fun r M' => Qy M' r ((Zm (fun x => JL kk1 kn1 x 0) l0).2)) := by
 refine Qd Tryz.func75 Y Tryz.ntmps75 Y Tryz.call75 ?_
 intro a w M1 H hM1 S E
 replace h0 := h0.le hM1
 have b0 := h0.bound
 have hul := Wm (fun x => JL kk1 kn1 x 0) l0
 refine Qs ?_
 refine Qk (QA (cs := #[.int .i64 kk1, .int .i64 kn1]) E S Y Y Y ?_)
 clear E a S; rintro a w b1 E S
 obtain ⟨a4, a2, a5, S⟩ := S.freezeB
 replace h0 := h0.le a2
 refine Qj E Y ?_
 clear E a; intro a E
 refine ZJ ?_
 have hb_1k2 := a5
 replace S := S.mono_heap (w' := World.drew _) rfl
 refine Jb (C := fun x w => agree a4 w) (bf := (fun i => [])) [0, 2, 3, 6] [0, 2, 3, 1, 4, 5, 6] Tryz.mixed (by kernel_rfl) (fun x hq => S.imm) ?_
 refine QU E Y (fun w hC => (QL E Y)) fun _ B => QU B Y (fun w hC => (ZW B Y (Tryz.isAgg30 _) (Tryz.sizeOf30 _) hC hb_1k2)) fun _ D => QU D Y (fun w hC => (ZV D Y Y)) ?_
 clear E a B D; intro a E
 refine ZP Y Y Y (Qm E S Y Y Y (QG h0) lerf ?_)
 clear E a S; rintro a b2 w b3 a0 a6 S E
 refine ⟨fun x hq hb => (Qu a0 S.imm), ?_⟩
 refine ZP Y Y Y (Qm E S Y Y Y (it_UniqBy a6 ⟨Y, fun zx1 => Gk (x1 := zx1) (by omega)⟩) lerf ?_)
 clear E a S; rintro a b4 w b5 a1 a7 S E
 refine ⟨fun x hq hb => (Qu (a0.trans a1) S.imm), ?_⟩
 refine ZP Y Y Y (Qm E S Y Y Y (QJ a7 (by omega)) lerf ?_)
 clear E a S; rintro a b6 w a8 a3 a9 S E
 refine ⟨fun x hq hb => (Qu (a0.trans (a1.trans a3)) S.imm), ?_⟩
 refine QU E Y (fun w hC => (Jx E Y)) ?_
 clear E a; intro a E
 refine JI (JH ?_)
 refine JZ (QM ?_)
 exact Qa E Tryz.results75 Y ⟨_, Y, a8, (a2.trans (a0.trans (a1.trans a3))), a9, S⟩
theorem it_Reverse1 {M : Hp} {v0 : Value} {l0 : List Int} (h0 : Qy M v0 l0){bx1 : Nat} (hbx1 : M bx1 = some (.cells #[v0] 22)) :
  Jh Tryz.prog (.func (.func 273) #[] #[.pointer (some ⟨bx1, 0, none⟩)]) M (QB) ((l0).reverse) := by
 refine Jw Tryz.func273 Y Tryz.ntmps273 Y Tryz.call273 ?_
 intro y J X a w M1 c H hJM hM1 hY hJ S E
 replace hbx1 := hM1.2 _ _ hbx1
 replace h0 := h0.le hM1
 have b0 := h0.bound
 refine Qs (Qb E Y Tryz.isAgg22 S.imm (Qf hbx1) fun _ B => Qt B Y QE h0.len fun _ C => JT (m := (((l0).length : Nat) : Int) - 1) C Y Y fun _ D => Qj D Y ?_)
 clear E a B C D; intro a E
 refine ZH ?_
 refine QN (γ := Nat) (fun (k : Nat) a w => ∃ (a1 : Hp) (cL0 : Qr), Hp.le M1 a1 ∧ St w a1 (zt [] :: cL0 :: H) ∧ Env a 18 (([] : List Nat).map mk) [(0, y), (1, .pointer (some ⟨bx1, 0, none⟩)), (3, .int .i64 ((l0.length : Int) - 1 - (k : Int)))] ∧ (k ≤ l0.length) ∧ J ((l0.drop (l0.length - k)).reverse) a1 cL0) (fun k => l0.length - k) 0 ⟨M1, _, lerf, S, E.keep ⟨Y, Y, Ye (i := (((l0).length : Nat) : Int) - 1) Y (by (omega)), trivial⟩, by (omega), Ju hJ (by (simp; done))⟩ ?_
 try clear E
 try clear S
 try clear a
 try clear w
 rintro k a w ⟨a1, cL0, a0, S, E, b1, hJ⟩
 replace hbx1 := a0.2 _ _ hbx1
 replace h0 := h0.le a0
 refine UK (Qn E Y fun _ B => Wc B Y Y ?_)
 clear E a B; intro a E
 refine Qz ?_
 refine Ql E Y (fun a6 => ?_) (fun a6 => ?_)
 ·refine YZ (Qn E Y fun _ B => Qb B Y Tryz.isAgg22 S.imm (Qf hbx1) fun _ C => Qn C Y ?_)
  clear E a B C; intro a E
  obtain ⟨a2, a7⟩ : ∃ x, (l0)[(((l0.length : Int) - 1 - (k : Int))).toNat]? = some x := ⟨_, List.getElem?_eq_getElem (by omega)⟩
  obtain ⟨b2, a8, a9⟩ := h0.at a7
  refine QZ E Y Y QE a8 (by omega) fun _ B => Qb B Y Tryz.isAgg3 S.imm a9 ?_
  clear E a B; intro a E
  replace S := S.front1
  refine Qk (JC (x := a2) E S Y Y Y hY a0 (by (refine yx ?_ ?_ (by assumption); omega; omega)) Y hJ ?_)
  clear E a S; rintro a w a3 a4 go_7 a5 hJ S E
  cases go_7
  ·replace hJ : X ((l0.drop (l0.length - k)).reverse ++ [a2]) a3 a4 := hJ
   refine Ji E Y ?_
   clear E a; intro a E
   refine Qz ?_
   refine QY E Y Y ?_
   refine QM (ZC (J_u (ZC ?_)))
   replace S := S.front1
   exact QR E S Tryz.results273 (fun w S => ⟨_, Y, a3, _, (a0.trans a5), .inr ⟨((l0.drop (l0.length - k)).reverse ++ [a2]), (by ((refine yx ?_ ?_ (by assumption); omega; omega))), hJ⟩, S⟩)
  ·replace hJ : J ((l0.drop (l0.length - k)).reverse ++ [a2]) a3 a4 := hJ
   refine Ji E Y ?_
   clear E a; intro a E
   refine Qz ?_
   refine QF E Y Y ?_
   refine zu (Qn E Y fun _ B => JT (m := ((l0.length : Int) - 1 - (k : Int)) - 1) B Y Y fun _ C => Qj C Y ?_)
   clear E a B C; intro a E
   refine Qz ?_
   replace S := S.front1
   exact ⟨k + 1, ⟨a3, _, (a0.trans a5), S, E.keep ⟨Y, Y, Ye (i := ((l0.length : Int) - 1 - (k : Int)) - 1) Y (by (omega)), trivial⟩, by (omega), Ju hJ (by (refine yw ?_ ?_ (by assumption); omega; omega))⟩, by omega⟩
 ·refine JO (Ul (Ul (zx (Yh ?_))))
  replace S := S.front1.front1
  have hpre : (l0.drop (l0.length - k)).reverse = (l0).reverse := by first | (simp; done) | (rw [show l0.length - k = 0 by omega]; simp; done) | (refine yw ?_ ?_ (by assumption); omega; omega)
  rw [hpre] at hJ
  exact QR E S Tryz.results273 (fun w S => ⟨_, Y, a1, _, a0, .inl hJ, S⟩)
theorem it_Reverse {M : Hp} {v0 : Value} {l0 : List Int} (h0 : Jh Tryz.prog v0 M (QB) l0)(hb : l0.length ≤ 1000000000000) :
  Pu Tryz.prog (.func (.func 194) #[] #[]) M [v0] (fun r M' => Jh Tryz.prog r M' QB ((l0).reverse)) := by
 refine Qd Tryz.func194 Y Tryz.ntmps194 Y Tryz.call194 ?_
 intro a w M1 H hM1 S E
 replace h0 := h0.le hM1
 refine Qs (Qj E Y fun _ B => QI (Qn B Y ?_))
 clear E a B; intro a E
 refine Qk (Qm E S Y Y Y (QJ h0 (by omega)) lerf ?_)
 clear E a S; rintro a a5 w a6 a2 a0 S E
 refine Qk (Ja (cs := #[.slice none 0 0]) E S Y Tryz.zeroValue22 Y ?_)
 clear E a S; rintro a w a7 E S
 refine Jm (QS E S Y Y (Tryz.sizeOf22 _) (QX.one' a0) ?_)
 clear E a S; rintro a w E S
 refine QI ?_
 have S0 := S; clear S
 obtain ⟨a3, a1, a4, S⟩ := S0.freezeB
 clear S0
 replace a0 := a0.le a1
 refine Qv E Y Y fun _ B => Qj B Y ?_
 clear E a B; intro a E
 refine Jj ?_
 exact Qa E Tryz.results194 Y ⟨_, Y, a3, (a2.trans a1), (Jy (it_Reverse1 a0 a4) (by (rfl))), S⟩
theorem jD {M : Hp} {v0 : Value} {l0 : List Int} (h0 : Qy M v0 l0)(hb : l0.length ≤ 1000000000000) :
  Pu Tryz.prog (.func (.func 76) #[] #[]) M [v0] (fun r M' => Qy M' r ((l0).reverse)) := by
 refine Qd Tryz.func76 Y Tryz.ntmps76 Y Tryz.call76 ?_
 intro a w M1 H hM1 S E
 replace h0 := h0.le hM1
 have b0 := h0.bound
 refine Qs (Qj E Y fun _ B => QI (Qn B Y ?_))
 clear E a B; intro a E
 refine Qk (Qm E S Y Y Y (QG h0) lerf ?_)
 clear E a S; rintro a a7 w a8 a0 a1 S E
 refine Qk (Qm E S Y Y Y (it_Reverse a1 (by (omega))) lerf ?_)
 clear E a S; rintro a a9 w b1 a2 a3 S E
 refine Qk (Qm E S Y Y Y (QJ a3 (by (first | omega | (simp; omega) | (simp; done) | (simp_all; omega) | grind))) lerf ?_)
 clear E a S; rintro a b2 w a4 a5 a6 S E
 refine Qj E Y ?_
 clear E a; intro a E
 refine Jj ?_
 exact Qa E Tryz.results76 Y ⟨_, Y, a4, (a0.trans (a2.trans a5)), a6, S⟩
theorem it_Take1 {M : Hp}  :
  Jh Tryz.prog (.func (.func 274) #[] #[]) M (QB) ([] : List Int) := by
 refine Jw Tryz.func274 Y Tryz.ntmps274 Y Tryz.call274 ?_
 intro y J X a w M1 c H hJM hM1 hY hJ S E
 refine J_x ?_
 replace S := S.front1.front1
 have hpre : [] = ([] : List Int) := by (rfl)
 rw [hpre] at hJ
 exact QR E S Tryz.results274 (fun w S => ⟨_, Y, M1, _, lerf, .inl hJ, S⟩)
theorem it_Take2 {M : Hp} {v1 : Value} {l1 : List Int} {c2 : Int} (g2 : 0 < c2 ∧ c2 ≤ 1000000) (hb : l1.length ≤ 1000000000000) {bx1 bx2 : Nat} (hbx1 : M bx1 = some (.cells #[v1] 62)) (h1 : Jh Tryz.prog v1 M QB l1) (hbx2 : M bx2 = some (.cells #[.int .i64 c2] 3)) :
  Jh Tryz.prog (.func (.func 275) #[] #[.pointer (some ⟨bx1, 0, none⟩), .pointer (some ⟨bx2, 0, none⟩)]) M (QB) ((l1).take (c2 : Int).toNat) := by
 refine Jw Tryz.func275 Y Tryz.ntmps275 Y Tryz.call275 ?_
 intro y J X a w M1 c H hJM hM1 hY hJ S E
 replace hbx1 := hM1.2 _ _ hbx1
 replace hbx2 := hM1.2 _ _ hbx2
 replace h1 := h1.le hM1
 refine Qs ?_
 refine Qk (QA (cs := #[y]) E S Y Y (cells_one hY.1) ?_)
 clear E a S; rintro a w a8 E S
 obtain ⟨b4, a0, a6, S⟩ := S.freezeB
 replace hbx1 := a0.2 _ _ hbx1
 replace hbx2 := a0.2 _ _ hbx2
 replace h1 := h1.le a0
 replace hJ := hJM _ _ _ _ a0 hJ
 refine QI ?_
 refine Qk (Ja (cs := #[.int .i64 0]) E S Y Tryz.zeroValue3 Y ?_)
 clear E a S; rintro a w a1 E S
 refine Jm (QS E S Y Y (Tryz.sizeOf3 _) Y ?_)
 clear E a S; rintro a w E S
 refine QI (Qb E Y Tryz.isAgg62 S.imm (Qf hbx1) ?_)
 clear E a; intro a E
 refine ZH ?_
 replace S := S.front2.front1
 replace E := E.keep (l' := [(2, .pointer (some ⟨bx2, 0, none⟩)), (3, .pointer (some ⟨a8, 0, none⟩)), (4, .pointer (some ⟨a1, 0, none⟩)), (6, v1)]) ⟨Y, Y, Y, Y, trivial⟩
 replace S := S.front1.front1
 replace S := S.blk_int (j := ((([] : List Int)).length : Int)) (by ((simp; done)))
 have S0 := S; clear S; have S := St.pack [Jk a1 (.cells #[.int .i64 ((([] : List Int)).length : Int)] 3), c] S0; clear S0
 refine JK (RV := QB) (l := l1) (fun pre M c => ∃ (c0 : Qr), c = Yf [Jk a1 (.cells #[.int .i64 ((pre).length : Int)] 3), c0] ∧ (J pre M c0) ∧ ((pre).length < c2.toNat)) (fun cd pre M c => cd = .ret ∧ ((∃ z, z <+: ((l1).take (c2 : Int).toNat) ∧ X z M c) ∨ J ((l1).take (c2 : Int).toNat) M c)) E S Y h1 lerf (fun _ _ _ h => by rw [h]; rfl) (by decide) (by rintro _ M M' c hM ⟨c0, rfl, f0, f1⟩; exact ⟨_, rfl, hJM _ _ _ _ hM f0, f1⟩) ⟨_, rfl, Ju hJ (by (rfl)), (by (simp; omega))⟩ ?_ ?_ ?_
 clear E S
 ·rintro lb_5 rec_6 pre x _ a w b5 _ G a4 a9 rfl ⟨c0, rfl, f0, f1⟩ E S
  replace E : Env a 19 [] [(7, .int .i64 x), (2, .pointer (some ⟨bx2, 0, none⟩)), (3, .pointer (some ⟨a8, 0, none⟩)), (4, .pointer (some ⟨a1, 0, none⟩)), (6, v1)] := E
  replace S := S.swap.unpack2
  have hq0 := Js a9
  replace hbx1 := a4.2 _ _ hbx1
  replace hbx2 := a4.2 _ _ hbx2
  replace a6 := a4.2 _ _ a6
  have hpl := a9.length_le; simp at hpl
  refine Qh (Qj E Y ?_)
  clear E a; intro a E
  refine Qz ?_
  replace S := S.front2
  refine rb S ?_
  clear S; intro w S
  refine QW (Qs (QH E Y (Tryz.isAgg3 _) (Qo (S.mem (.tail _ (.head _)))) fun _ B => Qp (m := (((pre).length + 1 : Nat) : Int)) B Y Y ?_))
  clear E a B; intro a E
  replace S := S.front1
  refine Jm (QS E S Y Y (Tryz.sizeOf3 _) Y ?_)
  clear E a S; rintro a w E S
  refine QI (Qb E Y Tryz.isAgg95 S.imm (Qf a6) fun _ B => Qn B Y ?_)
  clear E a B; intro a E
  replace S := S.front2
  refine Qk (JC (x := x) E S Y Y Y hY (a0.trans a4) (by (exact Ua (by assumption) (by simp; omega))) Y f0 ?_)
  clear E a S; rintro a w a2 a7 go_11 a3 f0 S E
  replace hbx1 := a3.2 _ _ hbx1
  replace hbx2 := a3.2 _ _ hbx2
  cases go_11
  ·replace f0 : X (pre ++ [x]) a2 a7 := f0
   refine Ji E Y fun _ B => Qn B Y fun _ C => Qe C Y Y Y Y fun _ D => Qe D Y Y Y Y fun _ F => Qe F Y Y Y Y fun _ I => JA I Y Y ?_
   clear E a B C D F I; intro a E
   refine Qz ?_
   refine QY E Y Y ?_
   refine QM (ZC ?_)
   replace S := S.front1.drop.front1
   exact ⟨a2, _, a3, ⟨Y, .inl ⟨_, (by ((exact Ua (by assumption) (by simp; omega)))), f0⟩⟩, S⟩
  ·replace f0 : J (pre ++ [x]) a2 a7 := f0
   refine Ji E Y fun _ B => Qn B Y fun _ C => Qc C Y Y (QH C Y (Tryz.isAgg3 _) (Qo (S.mem (.tail _ (.head _)))) fun _ D => Qc D Y Y (Qb D Y Tryz.isAgg3 S.imm (Qf hbx2) fun _ F => Qc F Y Y (Wc F Y Y fun _ I => JB I Y Y ?_)))
   clear E a B C D F I; intro a E
   refine Qz ?_
   refine Ql E Y (fun b2 => ?_) (fun b2 => ?_)
   ·refine QM (ZC ?_)
    replace S := S.front1.drop.front1
    exact ⟨a2, _, a3, ⟨Y, .inr (Ju f0 (by (exact Ux (by assumption) (by simp; omega))))⟩, S⟩
   ·refine Qx (ZK ?_)
    replace S := S.front1.front1.front1
    replace S := S.blk_int (j := (((pre ++ [x])).length : Int)) (by ((simp; done)))
    have S0 := S; clear S; have S := (St.pack [Jk a1 (.cells #[.int .i64 (((pre ++ [x])).length : Int)] 3), a7] S0).swap; clear S0
    exact ⟨a2, _, a3, ⟨_, Y, Ju f0 (by (rfl)), (by (simp; omega))⟩, S⟩
 ·rintro a w b3 _ D_14 b0 ⟨c0, rfl, f0, f1⟩ S E
  replace S := S.unpack2
  replace hbx1 := b0.2 _ _ hbx1
  refine ZK (Yh ?_)
  replace S := S.drop.front1
  have hpre : l1 = (l1).take (c2 : Int).toNat := by (rw [List.take_of_length_le (by omega)])
  rw [hpre] at f0
  exact QR E S Tryz.results275 (fun w S => ⟨_, Y, b3, _, (a0.trans b0), .inl f0, S⟩)
 ·rintro a w b1 c_ D_16 b6 _ a5 b7 ⟨rfl, (⟨z_, hz_, f0⟩ | f0)⟩ S E
  ·replace hbx1 := a5.2 _ _ hbx1
   refine QM (ZC ?_)
   replace S := S.front1
   exact QR E S Tryz.results275 (fun w S => ⟨_, Y, b1, _, (a0.trans a5), .inr ⟨z_, (by assumption), f0⟩, S⟩)
  ·replace hbx1 := a5.2 _ _ hbx1
   refine QM (ZC ?_)
   replace S := S.front1
   exact QR E S Tryz.results275 (fun w S => ⟨_, Y, b1, _, (a0.trans a5), .inl f0, S⟩)
theorem it_Take {M : Hp} {v0 : Value} {l0 : List Int} (h0 : Jh Tryz.prog v0 M (QB) l0){x1 : Int} (g1 : 0 ≤ x1 ∧ x1 ≤ 1000000) (hb : l0.length ≤ 1000000000000) :
  Pu Tryz.prog (.func (.func 196) #[] #[]) M [v0, .int .i64 x1] (fun r M' => Jh Tryz.prog r M' QB ((l0).take (x1 : Int).toNat)) := by
 refine Qd Tryz.func196 Y Tryz.ntmps196 Y Tryz.call196 ?_
 intro a w M1 H hM1 S E
 replace h0 := h0.le hM1
 refine Qs ?_
 refine Qk (QA (cs := #[v0]) E S Y Y (cells_one h0.1) ?_)
 clear E a S; rintro a w a7 E S
 obtain ⟨a8, a1, a2, S⟩ := S.freezeB
 replace h0 := h0.le a1
 refine Qk (QA (cs := #[.int .i64 x1]) E S Y Y Y ?_)
 clear E a S; rintro a w a9 E S
 obtain ⟨a4, a0, a3, S⟩ := S.freezeB
 replace h0 := h0.le a0
 replace a2 := a0.2 _ _ a2
 refine Qj E Y fun _ B => Zp (Qb B Y Tryz.isAgg3 S.imm (Qf a3) fun _ C => Jc C Y Y ?_)
 clear E a B C; intro a E
 refine Qz ?_
 have a5 : (decide (x1 < 0)) = false := by (apply decide_eq_false; omega)
 refine QF E Y a5 ?_
 refine je (Qb E Y Tryz.isAgg3 S.imm (Qf a3) fun _ B => QK B Y Y ?_)
 clear E a B; intro a E
 refine Qz ?_
 refine Ql E Y (fun a6 => ?_) (fun a6 => ?_)
 ·refine Qs (Qj E Y ?_)
  clear E a; intro a E
  refine UJ ?_
  exact Qa E Tryz.results196 Y ⟨_, Y, a4, (a1.trans a0), (Jy (it_Take1 ) (by (rw [show x1.toNat = 0 by omega]; simp))), S⟩
 ·refine VC (Qv E Y Y fun _ B => Qj B Y ?_)
  clear E a B; intro a E
  refine Jj ?_
  exact Qa E Tryz.results196 Y ⟨_, Y, a4, (a1.trans a0), (Jy (it_Take2 (by omega) (by omega) a2 h0 a3) (by (rfl))), S⟩
theorem impl_TakeSeq1 {M : Hp} {v0 : Value} {l0 : List Int} (hb : l0.length ≤ 1000000000000) {c1 : Int} (g1 : 0 ≤ c1 ∧ c1 ≤ 1000000) {bx0 bx1 : Nat} (hbx0 : M bx0 = some (.cells #[v0] 22)) (h0 : Qy M v0 l0) (hbx1 : M bx1 = some (.cells #[.int .i64 c1] 3)) :
  Pu Tryz.prog (.func (.func 195) #[] #[.pointer (some ⟨bx0, 0, none⟩), .pointer (some ⟨bx1, 0, none⟩)]) M [] (fun r M' => Qy M' r ((l0).take (c1 : Int).toNat)) := by
 refine Qd Tryz.func195 Y Tryz.ntmps195 Y Tryz.call195 ?_
 intro a w M1 H hM1 S E
 replace hbx0 := hM1.2 _ _ hbx0
 replace hbx1 := hM1.2 _ _ hbx1
 replace h0 := h0.le hM1
 have b0 := h0.bound
 refine Qs (Qj E Y ?_)
 clear E a; intro a E
 refine ZJ ?_
 have hbx0k0 := hbx0
 have hbx1k0 := hbx1
 replace S := S.mono_heap (w' := World.drew _) rfl
 refine Jb (C := fun x w => agree M1 w) (bf := (fun i => [])) [0, 2, 5] [0, 2, 1, 3, 4, 5] Tryz.mixed (by kernel_rfl) (fun x hq => S.imm) ?_
 refine QU E Y (fun w hC => (QQ E Y Tryz.isAgg22 hC (Qf hbx0k0))) fun _ B => QU B Y (fun w hC => (QQ B Y Tryz.isAgg3 hC (Qf hbx1k0))) ?_
 clear E a B; intro a E
 refine ZP Y Y Y (Qm E S Y Y Y (QG h0) lerf ?_)
 clear E a S; rintro a a7 w a8 a0 a3 S E
 refine ⟨fun x hq hb => (Qu a0 S.imm), ?_⟩
 refine ZP Y Y Y (Qm E S Y Y Y (it_Take a3 (by omega) (by (omega))) lerf ?_)
 clear E a S; rintro a a9 w b1 a1 a4 S E
 refine ⟨fun x hq hb => (Qu (a0.trans a1) S.imm), ?_⟩
 refine ZP Y Y Y (Qm E S Y Y Y (QJ a4 (by (first | omega | (simp; omega) | (simp; done) | (simp_all; omega) | grind))) lerf ?_)
 clear E a S; rintro a b2 w a5 a2 a6 S E
 refine ⟨fun x hq hb => (Qu (a0.trans (a1.trans a2)) S.imm), ?_⟩
 refine QU E Y (fun w hC => (Jx E Y)) ?_
 clear E a; intro a E
 refine JI (JH ?_)
 refine JZ (QM ?_)
 exact Qa E Tryz.results195 Y ⟨_, Y, a5, (a0.trans (a1.trans a2)), a6, S⟩
theorem impl_TakeSeq {M : Hp} {v0 : Value} {l0 : List Int} (h0 : Qy M v0 l0){x1 : Int}  (hb : l0.length ≤ 1000000000000) (g1 : 0 ≤ x1 ∧ x1 ≤ 1000000) :
  Pu Tryz.prog (.func (.func 77) #[] #[]) M [v0, .int .i64 x1] (fun r M' => ∃ t0, r = .tuple #[t0, .bool true] ∧ Qy M' t0 ((l0).take (x1 : Int).toNat)) := by
 refine Qd Tryz.func77 Y Tryz.ntmps77 Y Tryz.call77 ?_
 intro a w M1 H hM1 S E
 replace h0 := h0.le hM1
 have b0 := h0.bound
 refine Qs ?_
 refine Qk (QA (cs := #[v0]) E S Y Y (cells_one (QX.one' h0)) ?_)
 clear E a S; rintro a w a7 E S
 obtain ⟨a8, a2, a0, S⟩ := S.freezeB
 replace h0 := h0.le a2
 refine Qk (QA (cs := #[.int .i64 x1]) E S Y Y Y ?_)
 clear E a S; rintro a w a9 E S
 obtain ⟨b1, a1, a3, S⟩ := S.freezeB
 replace h0 := h0.le a1
 replace a0 := a1.2 _ _ a0
 refine QD 2 E Y fun _ B => QI (Qv B Y Y ?_)
 clear E a B; intro a E
 refine Qk (Qm E S Y Y Y (Yy ⟨Y, impl_TakeSeq1  (by omega) (by omega) a0 h0 a3⟩) lerf ?_)
 clear E a S; rintro a _ w a4 a5 ⟨b2, rfl, a6⟩ S E
 refine Qg E Y Y fun _ B => Qg B Y Y fun _ C => QD 2 C Y ?_
 clear E a B C; intro a E
 refine Jj ?_
 exact Zr E Tryz.results77 Y Y ⟨_, Y, a4, (a2.trans (a1.trans a5)), ⟨_, (by rfl), (QX.eqL a6 (by (rfl)))⟩, S⟩
theorem it_Drop1 {M : Hp} {c2 : Int} {x0 x1 : Int} {bx2 : Nat} (hbx2 : M bx2 = some (.cells #[.int .i64 c2] 3)) :
  Pu Tryz.prog (.func (.func 276) #[] #[.pointer (some ⟨bx2, 0, none⟩)]) M [.int .i64 x0, .int .i64 x1] (fun r M' => r = .bool (decide (c2 ≤ x1))) := by
 refine Qd Tryz.func276 Y Tryz.ntmps276 Y Tryz.call276 ?_
 intro a w M1 H hM1 S E
 replace hbx2 := hM1.2 _ _ hbx2
 refine Qs (Qj E Y fun _ B => QI (Qn B Y fun _ C => Qb C Y Tryz.isAgg3 S.imm (Qf hbx2) fun _ D => Wc D Y Y fun _ F => Qj F Y ?_))
 clear E a B C D F; intro a E
 refine Jj ?_
 exact Qa E Tryz.results276 Y ⟨_, Y, M1, lerf, Y, S⟩
theorem it_Drop {M : Hp} {v0 : Value} {l0 : List Int} (h0 : Jh Tryz.prog v0 M (QB) l0){x1 : Int} (g1 : 0 ≤ x1 ∧ x1 ≤ 1000000) (hb : l0.length ≤ 1000000000000) :
  Pu Tryz.prog (.func (.func 198) #[] #[]) M [v0, .int .i64 x1] (fun r M' => Jh Tryz.prog r M' QB ((l0).drop (x1 : Int).toNat)) := by
 refine Qd Tryz.func198 Y Tryz.ntmps198 Y Tryz.call198 ?_
 intro a w M1 H hM1 S E
 replace h0 := h0.le hM1
 refine Qs ?_
 refine Qk (QA (cs := #[.int .i64 x1]) E S Y Y Y ?_)
 clear E a S; rintro a w a8 E S
 obtain ⟨a2, a0, a1, S⟩ := S.freezeB
 replace h0 := h0.le a0
 refine Qj E Y fun _ B => Zp (Qb B Y Tryz.isAgg3 S.imm (Qf a1) fun _ C => Jc C Y Y ?_)
 clear E a B C; intro a E
 refine Qz ?_
 have a3 : (decide (x1 < 0)) = false := by (apply decide_eq_false; omega)
 refine QF E Y a3 ?_
 refine je (Qb E Y Tryz.isAgg3 S.imm (Qf a1) fun _ B => QK B Y Y ?_)
 clear E a B; intro a E
 refine Qz ?_
 refine Ql E Y (fun a4 => ?_) (fun a4 => ?_)
 ·refine Qs (QD 2 E Y ?_)
  clear E a; intro a E
  refine UJ ?_
  exact Qa E Tryz.results198 Y ⟨_, Y, a2, a0, (Jy h0 (by (rw [show x1.toNat = 0 by omega]; simp))), S⟩
 ·refine VC (Qn E Y fun _ B => Qv B Y Y ?_)
  clear E a B; intro a E
  refine Qk (Qm E S Y Y Y (qa h0 ⟨Y, fun zx0 zx1 => it_Drop1 (x0 := zx0) (x1 := zx1) a1⟩ (by (omega))) lerf ?_)
  clear E a S; rintro a a9 w a5 a6 a7 S E
  refine Qj E Y ?_
  clear E a; intro a E
  refine Jj ?_
  exact Qa E Tryz.results198 Y ⟨_, Y, a5, (a0.trans a6), (Jy a7 (by (exact vt x1 (by omega) l0 0))), S⟩
theorem impl_DropSeq1 {M : Hp} {v0 : Value} {l0 : List Int} (hb : l0.length ≤ 1000000000000) {c1 : Int} (g1 : 0 ≤ c1 ∧ c1 ≤ 1000000) {bx0 bx1 : Nat} (hbx0 : M bx0 = some (.cells #[v0] 22)) (h0 : Qy M v0 l0) (hbx1 : M bx1 = some (.cells #[.int .i64 c1] 3)) :
  Pu Tryz.prog (.func (.func 197) #[] #[.pointer (some ⟨bx0, 0, none⟩), .pointer (some ⟨bx1, 0, none⟩)]) M [] (fun r M' => Qy M' r ((l0).drop (c1 : Int).toNat)) := by
 refine Qd Tryz.func197 Y Tryz.ntmps197 Y Tryz.call197 ?_
 intro a w M1 H hM1 S E
 replace hbx0 := hM1.2 _ _ hbx0
 replace hbx1 := hM1.2 _ _ hbx1
 replace h0 := h0.le hM1
 have b0 := h0.bound
 refine Qs (Qj E Y ?_)
 clear E a; intro a E
 refine ZJ ?_
 have hbx0k0 := hbx0
 have hbx1k0 := hbx1
 replace S := S.mono_heap (w' := World.drew _) rfl
 refine Jb (C := fun x w => agree M1 w) (bf := (fun i => [])) [0, 2, 5] [0, 2, 1, 3, 4, 5] Tryz.mixed (by kernel_rfl) (fun x hq => S.imm) ?_
 refine QU E Y (fun w hC => (QQ E Y Tryz.isAgg22 hC (Qf hbx0k0))) fun _ B => QU B Y (fun w hC => (QQ B Y Tryz.isAgg3 hC (Qf hbx1k0))) ?_
 clear E a B; intro a E
 refine ZP Y Y Y (Qm E S Y Y Y (QG h0) lerf ?_)
 clear E a S; rintro a a7 w a8 a0 a3 S E
 refine ⟨fun x hq hb => (Qu a0 S.imm), ?_⟩
 refine ZP Y Y Y (Qm E S Y Y Y (it_Drop a3 (by omega) (by (omega))) lerf ?_)
 clear E a S; rintro a a9 w b1 a1 a4 S E
 refine ⟨fun x hq hb => (Qu (a0.trans a1) S.imm), ?_⟩
 refine ZP Y Y Y (Qm E S Y Y Y (QJ a4 (by (first | omega | (simp; omega) | (simp; done) | (simp_all; omega) | grind))) lerf ?_)
 clear E a S; rintro a b2 w a5 a2 a6 S E
 refine ⟨fun x hq hb => (Qu (a0.trans (a1.trans a2)) S.imm), ?_⟩
 refine QU E Y (fun w hC => (Jx E Y)) ?_
 clear E a; intro a E
 refine JI (JH ?_)
 refine JZ (QM ?_)
 exact Qa E Tryz.results197 Y ⟨_, Y, a5, (a0.trans (a1.trans a2)), a6, S⟩
theorem impl_DropSeq {M : Hp} {v0 : Value} {l0 : List Int} (h0 : Qy M v0 l0){x1 : Int}  (hb : l0.length ≤ 1000000000000) (g1 : 0 ≤ x1 ∧ x1 ≤ 1000000) :
  Pu Tryz.prog (.func (.func 78) #[] #[]) M [v0, .int .i64 x1] (fun r M' => ∃ t0, r = .tuple #[t0, .bool true] ∧ Qy M' t0 ((l0).drop (x1 : Int).toNat)) := by
 refine Qd Tryz.func78 Y Tryz.ntmps78 Y Tryz.call78 ?_
 intro a w M1 H hM1 S E
 replace h0 := h0.le hM1
 have b0 := h0.bound
 refine Qs ?_
 refine Qk (QA (cs := #[v0]) E S Y Y (cells_one (QX.one' h0)) ?_)
 clear E a S; rintro a w a7 E S
 obtain ⟨a8, a2, a0, S⟩ := S.freezeB
 replace h0 := h0.le a2
 refine Qk (QA (cs := #[.int .i64 x1]) E S Y Y Y ?_)
 clear E a S; rintro a w a9 E S
 obtain ⟨b1, a1, a3, S⟩ := S.freezeB
 replace h0 := h0.le a1
 replace a0 := a1.2 _ _ a0
 refine QD 2 E Y fun _ B => QI (Qv B Y Y ?_)
 clear E a B; intro a E
 refine Qk (Qm E S Y Y Y (Yy ⟨Y, impl_DropSeq1  (by omega) (by omega) a0 h0 a3⟩) lerf ?_)
 clear E a S; rintro a _ w a4 a5 ⟨b2, rfl, a6⟩ S E
 refine Qg E Y Y fun _ B => Qg B Y Y fun _ C => QD 2 C Y ?_
 clear E a B C; intro a E
 refine Jj ?_
 exact Zr E Tryz.results78 Y Y ⟨_, Y, a4, (a2.trans (a1.trans a5)), ⟨_, (by rfl), (QX.eqL a6 (by (rfl)))⟩, S⟩
theorem it_DropLast1 {M : Hp} {v2 : Value} {l2 : List Int} {c1 : Int} (g1 : 0 < c1 ∧ c1 ≤ 1000000) (hb : l2.length ≤ 1000000000000) {bx1 bx2 : Nat} (hbx1 : M bx1 = some (.cells #[.int .i64 c1] 3)) (hbx2 : M bx2 = some (.cells #[v2] 62)) (h2 : Jh Tryz.prog v2 M QB l2) :
  Jh Tryz.prog (.func (.func 277) #[] #[.pointer (some ⟨bx1, 0, none⟩), .pointer (some ⟨bx2, 0, none⟩)]) M (QB) ((l2).take ((l2).length - (c1 : Int).toNat)) := by
 refine Jw Tryz.func277 Y Tryz.ntmps277 Y Tryz.call277 ?_
 intro y J X a w M1 c H hJM hM1 hY hJ S E
 replace hbx1 := hM1.2 _ _ hbx1
 replace hbx2 := hM1.2 _ _ hbx2
 replace h2 := h2.le hM1
 refine Qs ?_
 refine Qk (QA (cs := #[y]) E S Y Y (cells_one hY.1) ?_)
 clear E a S; rintro a w b1 E S
 obtain ⟨c3, a1, a7, S⟩ := S.freezeB
 replace hbx1 := a1.2 _ _ hbx1
 replace hbx2 := a1.2 _ _ hbx2
 replace h2 := h2.le a1
 replace hJ := hJM _ _ _ _ a1 hJ
 refine QI (Qb E Y Tryz.isAgg3 S.imm (Qf hbx1) ?_)
 clear E a; intro a E
 refine Qk (YM (k := (c1).toNat) E S Y Y Y QE (by omega) (by omega) (by omega) (by omega) ?_)
 clear E a S; rintro a w b2 E S
 replace S := S.madeI
 refine Qk (Ja (cs := #[.slice none 0 0]) E S Y Tryz.zeroValue22 Y ?_)
 clear E a S; rintro a w a2 E S
 replace S := S.front1
 have ho_5 := S.oneI
 replace S := S.front1
 refine Jm (QS E S Y Y (Tryz.sizeOf22 _) ho_5 ?_)
 clear E a S; rintro a w E S
 refine QI ?_
 refine Qk (Ja (cs := #[.int .i64 0]) E S Y Tryz.zeroValue3 Y ?_)
 clear E a S; rintro a w a3 E S
 refine QI (Qb E Y Tryz.isAgg62 S.imm (Qf hbx2) ?_)
 clear E a; intro a E
 refine ZH ?_
 replace S := S.front1.front4.front2.front3.front3
 replace E := E.keep (l' := [(1, .pointer (some ⟨bx1, 0, none⟩)), (3, .pointer (some ⟨b1, 0, none⟩)), (4, .pointer (some ⟨a2, 0, none⟩)), (5, .pointer (some ⟨a3, 0, none⟩)), (10, v2)]) ⟨Y, Y, Y, Y, Y, trivial⟩
 replace S := S.front3.front3
 replace S := S.blk_int (j := ((([] : List Int)).length : Int)) (by ((simp; done)))
 replace S := S.front3
 replace S := S.re1 (l' := VZ c1.toNat (([] : List Int))) (by (simp [VZ]; done))
 replace S := S.front3
 have S0 := S; clear S; have S := St.pack [Jk a2 (.cells #[b2] 22), Jg 3 b2 (VZ c1.toNat (([] : List Int))), Jk a3 (.cells #[.int .i64 ((([] : List Int)).length : Int)] 3), c] S0; clear S0
 refine JK (RV := QB) (l := l2) (fun pre M c => ∃ (u4 : Value) (c0 : Qr), c = Yf [Jk a2 (.cells #[u4] 22), Jg 3 u4 (VZ c1.toNat (pre)), Jk a3 (.cells #[.int .i64 ((pre).length : Int)] 3), c0] ∧ (J ((pre).take ((pre).length - c1.toNat)) M c0)) (fun cd pre M c => cd = .ret ∧ ∃ z, z <+: ((l2).take ((l2).length - (c1 : Int).toNat)) ∧ X z M c) E S Y h2 lerf (fun _ _ _ h => by rw [h]; rfl) (by decide) (by rintro _ M M' c hM ⟨u4, c0, rfl, f0⟩; exact ⟨_, _, rfl, hJM _ _ _ _ hM f0⟩) ⟨_, _, rfl, Ju hJ (by ((try clear S); (try clear E); (simp; done)))⟩ ?_ ?_ ?_
 clear E S
 ·rintro lb_8 rec_9 pre x _ a w b3 _ G a8 b4 rfl ⟨u4, c0, rfl, f0⟩ E S
  replace E : Env a 33 [] [(11, .int .i64 x), (1, .pointer (some ⟨bx1, 0, none⟩)), (3, .pointer (some ⟨b1, 0, none⟩)), (4, .pointer (some ⟨a2, 0, none⟩)), (5, .pointer (some ⟨a3, 0, none⟩)), (10, v2)] := E
  replace S := S.swap.unpack4
  have hq0 := Js b4
  replace hbx1 := a8.2 _ _ hbx1
  replace a7 := a8.2 _ _ a7
  have hpl := b4.length_le; simp at hpl; have hrl := ringL_len c1.toNat pre
  refine Qh (Qj E Y ?_)
  clear E a; intro a E
  refine Qz ?_
  replace S := S.front4
  refine rb S ?_
  clear S; intro w S
  refine QW (Qs (QH E Y (Tryz.isAgg3 _) (Qo (S.mem (.tail _ (.tail _ (.tail _ (.head _)))))) fun _ B => Qb B Y Tryz.isAgg3 S.imm (Qf hbx1) fun _ D => e_remm (m := (((pre).length % c1.toNat : Nat) : Int)) D Y Y (by omega) (by exact tmod_nat (by omega)) fun _ F => Qj F Y fun _ I => QI (QH I Y (Tryz.isAgg3 _) (Qo (S.mem (.tail _ (.tail _ (.tail _ (.head _)))))) fun _ K => Qp (m := (((pre).length + 1 : Nat) : Int)) K Y Y ?_)))
  clear E a B D F I K; intro a E
  replace S := S.front3
  refine Jm (QS E S Y Y (Tryz.sizeOf3 _) Y ?_)
  clear E a S; rintro a w E S
  refine ZJ (Je ?_)
  have hbx1k11 := hbx1
  have hb_1k11 := a7
  replace S := S.mono_heap (w' := World.drew _) rfl
  replace S := S.front3
  obtain ⟨b5, a4⟩ := S.ptrC (k := (pre).length % c1.toNat) (by (rw [hrl]; exact Nat.mod_lt _ (by omega)))
  obtain ⟨a5, b6⟩ : ∃ x, (VZ c1.toNat (pre))[(pre).length % c1.toNat]? = some x := ⟨_, List.getElem?_eq_getElem (by (rw [hrl]; exact Nat.mod_lt _ (by omega)))⟩
  refine Jb (C := fun x w => agree b3 w ∧ (x = 0 → w.heap[a3]? = some (.cells #[.int .i64 (((pre).length + 1 : Nat) : Int)] 3)) ∧ (x = 5 → w.heap[a2]? = some (.cells #[u4] 22)) ∧ (x = 8 → w.cell? b5 = some (.int .i64 a5))) (bf := (fun i => bif Nat.beq i 9 then [0, 5, 8] else [])) [0, 1, 2, 3, 4, 5, 6, 7, 8, 10, 11] [0, 1, 2, 3, 4, 5, 6, 7, 8, 9, 10, 11] Tryz.mixed (by kernel_rfl) (fun x hq => ⟨S.imm, fun _ => (S.mem (.tail _ (.head _))), fun _ => (S.mem (.tail _ (.tail _ (.tail _ (.head _))))), fun _ => S.cellI a4 b6⟩) ?_
  refine QU E Y (fun w hC => (ZF E Y (Tryz.isAgg3 _) (Qo (hC.2.1 Y)))) fun _ B => QU B Y (fun w hC => (QQ B Y Tryz.isAgg3 hC.1 (Qf hbx1k11))) fun _ D => QU D Y (fun w hC => (R_gtr D Y Y)) fun _ F => QU F Y (fun w hC => (QL F Y)) ?_
  clear E a B D F; intro a E
  refine Jo (decide (c1 < (((pre).length + 1 : Nat) : Int))) (fun a0 => ?_) (fun a0 => ?_)
  ·replace E := E.val (t := 19) Y a0
   replace E := E.val (t := 20) Y a0
   replace a0 := of_decide_eq_true a0
   have hol := ringL_old (n := c1.toNat) (p := pre) (by omega) (by omega) (by assumption)
   refine ZG E Y Y Y Y Y (fun w hC => (QQ E Y Tryz.isAgg95 hC.1 (Qf hb_1k11))) fun _ B => ZG B Y Y Y Y Y (fun w hC => (ZF B Y (Tryz.isAgg22 _) (Qo (hC.2.2.1 Y)))) fun _ D => ZG D Y Y Y Y Y (fun w hC => (QL D Y)) fun _ F => ZG F Y Y Y Y Y (fun w hC => (ZO F Y Y QE a4 Y)) fun _ I => ZG I Y Y Y Y Y (fun w hC => (ZF I Y (Tryz.isAgg3 _) (hC.2.2.2 Y))) ?_
   clear E a B D F I; intro a E
   replace S := S.front4
   refine D_yes E Y Y Y Y (JC (x := a5) E S Y Y Y hY (a1.trans a8) (by (exact dl_pref (by assumption) (by omega) (by omega) (by assumption))) Y f0 ?_)
   clear E a S; rintro a w a6 a9 go_17 b0 f0 S E
   refine ⟨fun x hq hb => ⟨(Qu b0 S.imm), (fun e => by subst e; exact absurd hb (by decide)), (fun e => by subst e; exact absurd hb (by decide)), (fun e => by subst e; exact absurd hb (by decide))⟩, ?_⟩
   cases go_17
   ·replace f0 : X ((pre).take ((pre).length - c1.toNat) ++ [a5]) a6 a9 := f0
    refine ZG E Y Y Y Y Y (fun w hC => (YN E Y)) fun _ B => QU B Y (fun w hC => (zq B Y Y)) ?_
    clear E a B; intro a E
    refine JI (JH ?_)
    refine JZ ?_
    refine QY E Y Y ?_
    refine QM (UA (ZC ?_))
    replace S := S.front1.drop.front1.drop.front2.drop.front1
    exact ⟨a6, _, b0, ⟨Y, _, (by ((exact dl_pref (by assumption) (by omega) (by omega) (by assumption)))), f0⟩, S⟩
   ·replace f0 : J ((pre).take ((pre).length - c1.toNat) ++ [a5]) a6 a9 := f0
    refine ZG E Y Y Y Y Y (fun w hC => (YN E Y)) fun _ B => QU B Y (fun w hC => (zq B Y Y)) ?_
    clear E a B; intro a E
    refine JI (JH ?_)
    refine JZ ?_
    refine QF E Y Y ?_
    refine Qx (JZ (Qh (QH E Y (Tryz.isAgg22 _) (Qo (S.mem (.tail _ (.tail _ (.tail _ (.tail _ (.head _))))))) fun _ B => QD 2 B Y fun _ D => QZ D Y Y QE a4 Y ?_)))
    clear E a B D; intro a E
    replace S := S.front1
    refine Jm (YH E S Y Y (Tryz.sizeOf3 _) a4 ?_)
    clear E a S; rintro a w E S
    refine Jz (ZK ?_)
    replace S := S.front1.front2.front2.front4.front3.front3
    replace S := S.blk_int (j := (((pre ++ [x])).length : Int)) (by ((simp; done)))
    replace S := S.front3
    replace S := S.re1 (l' := VZ c1.toNat ((pre ++ [x]))) (by (rw [zD]; done))
    replace S := S.front3
    have S0 := S; clear S; have S := (St.pack [Jk a2 (.cells #[u4] 22), Jg 3 u4 (VZ c1.toNat ((pre ++ [x]))), Jk a3 (.cells #[.int .i64 (((pre ++ [x])).length : Int)] 3), a9] S0).swap; clear S0
    exact ⟨a6, _, b0, ⟨_, _, Y, Ju f0 (by ((simp only [List.length_append, List.length_singleton]; exact (GQ (by omega) (by omega) (by assumption)).symm)))⟩, S⟩
  ·replace E := E.val (t := 19) Y a0
   replace E := E.val (t := 20) Y a0
   replace a0 := of_decide_eq_false a0
   refine Uj E Y Y Y Y Y fun a E => ?_
   refine Uj E Y Y Y Y Y fun a E => ?_
   refine Uj E Y Y Y Y Y fun a E => ?_
   refine Uj E Y Y Y Y Y fun a E => ?_
   refine Uj E Y Y Y Y Y fun a E => ?_
   refine Uj E Y Y Y Y Y fun a E => ?_
   refine Uj E Y Y Y Y Y fun a E => ?_
   refine QU E Y (fun w hC => (yf E Y Y)) ?_
   clear E a; intro a E
   refine JI (JH ?_)
   refine JZ ?_
   refine QF E Y Y ?_
   refine Qx (JZ (Qh (QH E Y (Tryz.isAgg22 _) (Qo (S.mem (.tail _ (.tail _ (.tail _ (.head _)))))) fun _ B => QD 2 B Y fun _ D => QZ D Y Y QE a4 Y ?_)))
   clear E a B D; intro a E
   refine Jm (YH E S Y Y (Tryz.sizeOf3 _) a4 ?_)
   clear E a S; rintro a w E S
   refine Jz (ZK ?_)
   replace S := S.front4.front2.front2.front4.front3.front3
   replace S := S.blk_int (j := (((pre ++ [x])).length : Int)) (by ((simp; done)))
   replace S := S.front3
   replace S := S.re1 (l' := VZ c1.toNat ((pre ++ [x]))) (by (rw [zD]; done))
   replace S := S.front3
   have S0 := S; clear S; have S := (St.pack [Jk a2 (.cells #[u4] 22), Jg 3 u4 (VZ c1.toNat ((pre ++ [x]))), Jk a3 (.cells #[.int .i64 (((pre ++ [x])).length : Int)] 3), c0] S0).swap; clear S0
   exact ⟨b3, _, lerf, ⟨_, _, Y, Ju f0 (by ((simp only [List.length_append, List.length_singleton]; rw [show pre.length + 1 - c1.toNat = 0 by omega, show pre.length - c1.toNat = 0 by omega]; rfl)))⟩, S⟩
 ·rintro a w b7 _ D_19 b8 ⟨u4, c0, rfl, f0⟩ S E
  replace S := S.unpack4
  refine ZK (Yh ?_)
  replace S := S.drop.drop.drop.front1
  have hpre : (l2).take ((l2).length - c1.toNat) = (l2).take ((l2).length - (c1 : Int).toNat) := by (rfl)
  rw [hpre] at f0
  exact QR E S Tryz.results277 (fun w S => ⟨_, Y, b7, _, (a1.trans b8), .inl f0, S⟩)
 ·rintro a w b9 c_ D_21 c4 _ c2 c5 ⟨rfl, z_, hz_, f0⟩ S E
  refine QM (ZC ?_)
  replace S := S.front1
  exact QR E S Tryz.results277 (fun w S => ⟨_, Y, b9, _, (a1.trans c2), .inr ⟨z_, (by assumption), f0⟩, S⟩)
theorem it_DropLast {M : Hp} {v0 : Value} {l0 : List Int} (h0 : Jh Tryz.prog v0 M (QB) l0){x1 : Int} (g1 : 0 ≤ x1 ∧ x1 ≤ 1000000) (hb : l0.length ≤ 1000000000000) :
  Pu Tryz.prog (.func (.func 200) #[] #[]) M [v0, .int .i64 x1] (fun r M' => Jh Tryz.prog r M' QB ((l0).take ((l0).length - (x1 : Int).toNat))) := by
 refine Qd Tryz.func200 Y Tryz.ntmps200 Y Tryz.call200 ?_
 intro a w M1 H hM1 S E
 replace h0 := h0.le hM1
 refine Qs ?_
 refine Qk (QA (cs := #[v0]) E S Y Y (cells_one h0.1) ?_)
 clear E a S; rintro a w a7 E S
 obtain ⟨a8, a2, a0, S⟩ := S.freezeB
 replace h0 := h0.le a2
 refine Qk (QA (cs := #[.int .i64 x1]) E S Y Y Y ?_)
 clear E a S; rintro a w a9 E S
 obtain ⟨a4, a1, a3, S⟩ := S.freezeB
 replace h0 := h0.le a1
 replace a0 := a1.2 _ _ a0
 refine Qj E Y fun _ B => Zp (Qb B Y Tryz.isAgg3 S.imm (Qf a3) fun _ C => Jc C Y Y ?_)
 clear E a B C; intro a E
 refine Qz ?_
 have a5 : (decide (x1 < 0)) = false := by (apply decide_eq_false; omega)
 refine QF E Y a5 ?_
 refine je (Qb E Y Tryz.isAgg3 S.imm (Qf a3) fun _ B => QK B Y Y ?_)
 clear E a B; intro a E
 refine Qz ?_
 refine Ql E Y (fun a6 => ?_) (fun a6 => ?_)
 ·refine Qs (Qb E Y Tryz.isAgg62 S.imm (Qf a0) fun _ B => Qj B Y ?_)
  clear E a B; intro a E
  refine UJ ?_
  exact Qa E Tryz.results200 Y ⟨_, Y, a4, (a2.trans a1), (Jy h0 (by (rw [show x1.toNat = 0 by omega]; simp))), S⟩
 ·refine VC (Qv E Y Y fun _ B => Qj B Y ?_)
  clear E a B; intro a E
  refine Jj ?_
  exact Qa E Tryz.results200 Y ⟨_, Y, a4, (a2.trans a1), (Jy (it_DropLast1 (by omega) (by omega) a3 a0 h0) (by (rfl))), S⟩
theorem qj {M : Hp} {v0 : Value} {l0 : List Int} (hb : l0.length ≤ 1000000000000) {c1 : Int} (g1 : 0 ≤ c1 ∧ c1 ≤ 1000000) {bx0 bx1 : Nat} (hbx0 : M bx0 = some (.cells #[v0] 22)) (h0 : Qy M v0 l0) (hbx1 : M bx1 = some (.cells #[.int .i64 c1] 3)) :
  Pu Tryz.prog (.func (.func 199) #[] #[.pointer (some ⟨bx0, 0, none⟩), .pointer (some ⟨bx1, 0, none⟩)]) M [] (fun r M' => Qy M' r ((l0).take ((l0).length - (c1 : Int).toNat))) := by
 refine Qd Tryz.func199 Y Tryz.ntmps199 Y Tryz.call199 ?_
 intro a w M1 H hM1 S E
 replace hbx0 := hM1.2 _ _ hbx0
 replace hbx1 := hM1.2 _ _ hbx1
 replace h0 := h0.le hM1
 have b0 := h0.bound
 refine Qs (Qj E Y ?_)
 clear E a; intro a E
 refine ZJ ?_
 have hbx0k0 := hbx0
 have hbx1k0 := hbx1
 replace S := S.mono_heap (w' := World.drew _) rfl
 refine Jb (C := fun x w => agree M1 w) (bf := (fun i => [])) [0, 2, 5] [0, 2, 1, 3, 4, 5] Tryz.mixed (by kernel_rfl) (fun x hq => S.imm) ?_
 refine QU E Y (fun w hC => (QQ E Y Tryz.isAgg22 hC (Qf hbx0k0))) fun _ B => QU B Y (fun w hC => (QQ B Y Tryz.isAgg3 hC (Qf hbx1k0))) ?_
 clear E a B; intro a E
 refine ZP Y Y Y (Qm E S Y Y Y (QG h0) lerf ?_)
 clear E a S; rintro a a7 w a8 a0 a3 S E
 refine ⟨fun x hq hb => (Qu a0 S.imm), ?_⟩
 refine ZP Y Y Y (Qm E S Y Y Y (it_DropLast a3 (by omega) (by (omega))) lerf ?_)
 clear E a S; rintro a a9 w b1 a1 a4 S E
 refine ⟨fun x hq hb => (Qu (a0.trans a1) S.imm), ?_⟩
 refine ZP Y Y Y (Qm E S Y Y Y (QJ a4 (by (first | omega | (simp; omega) | (simp; done) | (simp_all; omega) | grind))) lerf ?_)
 clear E a S; rintro a b2 w a5 a2 a6 S E
 refine ⟨fun x hq hb => (Qu (a0.trans (a1.trans a2)) S.imm), ?_⟩
 refine QU E Y (fun w hC => (Jx E Y)) ?_
 clear E a; intro a E
 refine JI (JH ?_)
 refine JZ (QM ?_)
 exact Qa E Tryz.results199 Y ⟨_, Y, a5, (a0.trans (a1.trans a2)), a6, S⟩
theorem za {M : Hp} {v0 : Value} {l0 : List Int} (h0 : Qy M v0 l0){x1 : Int}  (hb : l0.length ≤ 1000000000000) (g1 : 0 ≤ x1 ∧ x1 ≤ 1000000) :
  Pu Tryz.prog (.func (.func 79) #[] #[]) M [v0, .int .i64 x1] (fun r M' => ∃ t0, r = .tuple #[t0, .bool true] ∧ Qy M' t0 ((l0).take ((l0).length - (x1 : Int).toNat))) := by
 refine Qd Tryz.func79 Y Tryz.ntmps79 Y Tryz.call79 ?_
 intro a w M1 H hM1 S E
 replace h0 := h0.le hM1
 have b0 := h0.bound
 refine Qs ?_
 refine Qk (QA (cs := #[v0]) E S Y Y (cells_one (QX.one' h0)) ?_)
 clear E a S; rintro a w a7 E S
 obtain ⟨a8, a2, a0, S⟩ := S.freezeB
 replace h0 := h0.le a2
 refine Qk (QA (cs := #[.int .i64 x1]) E S Y Y Y ?_)
 clear E a S; rintro a w a9 E S
 obtain ⟨b1, a1, a3, S⟩ := S.freezeB
 replace h0 := h0.le a1
 replace a0 := a1.2 _ _ a0
 refine QD 2 E Y fun _ B => QI (Qv B Y Y ?_)
 clear E a B; intro a E
 refine Qk (Qm E S Y Y Y (Yy ⟨Y, qj  (by omega) (by omega) a0 h0 a3⟩) lerf ?_)
 clear E a S; rintro a _ w a4 a5 ⟨b2, rfl, a6⟩ S E
 refine Qg E Y Y fun _ B => Qg B Y Y fun _ C => QD 2 C Y ?_
 clear E a B C; intro a E
 refine Jj ?_
 exact Zr E Tryz.results79 Y Y ⟨_, Y, a4, (a2.trans (a1.trans a5)), ⟨_, (by rfl), (QX.eqL a6 (by (rfl)))⟩, S⟩
theorem it_TakeWhile1 {M : Hp} {v1 : Value} {l1 : List Int} {v2 : Value} {f2 : Int → Bool} (h2 : Gj Tryz.prog v2 M f2) {bx1 bx2 : Nat} (hbx1 : M bx1 = some (.cells #[v1] 62)) (h1 : Jh Tryz.prog v1 M QB l1) (hbx2 : M bx2 = some (.cells #[v2] 95)) :
  Jh Tryz.prog (.func (.func 278) #[] #[.pointer (some ⟨bx1, 0, none⟩), .pointer (some ⟨bx2, 0, none⟩)]) M (QB) ((l1).takeWhile f2) := by
 refine Jw Tryz.func278 Y Tryz.ntmps278 Y Tryz.call278 ?_
 intro y J X a w M1 c H hJM hM1 hY hJ S E
 replace hbx1 := hM1.2 _ _ hbx1
 replace hbx2 := hM1.2 _ _ hbx2
 replace h1 := h1.le hM1
 replace h2 := h2.le hM1
 refine Qs ?_
 refine Qk (QA (cs := #[y]) E S Y Y (cells_one hY.1) ?_)
 clear E a S; rintro a w a9 E S
 obtain ⟨b5, a0, a2, S⟩ := S.freezeB
 replace hbx1 := a0.2 _ _ hbx1
 replace hbx2 := a0.2 _ _ hbx2
 replace h1 := h1.le a0
 replace h2 := h2.le a0
 replace hJ := hJM _ _ _ _ a0 hJ
 refine QI (Qb E Y Tryz.isAgg62 S.imm (Qf hbx1) ?_)
 clear E a; intro a E
 refine ZH ?_
 replace S := S.front1
 replace E := E.keep (l' := [(2, .pointer (some ⟨bx2, 0, none⟩)), (3, .pointer (some ⟨a9, 0, none⟩)), (5, v1)]) ⟨Y, Y, Y, trivial⟩
 have S0 := S; clear S; have S := St.pack [c] S0; clear S0
 refine JK (RV := QB) (l := l1) (fun pre M c => ∃ (c0 : Qr), c = Yf [c0] ∧ (J pre M c0) ∧ (∀ y ∈ pre, f2 y = true)) (fun cd pre M c => cd = .ret ∧ ((∃ z, z <+: ((l1).takeWhile f2) ∧ X z M c) ∨ J ((l1).takeWhile f2) M c)) E S Y h1 lerf (fun _ _ _ h => by rw [h]; rfl) (by decide) (by rintro _ M M' c hM ⟨c0, rfl, f0, f1⟩; exact ⟨_, rfl, hJM _ _ _ _ hM f0, f1⟩) ⟨_, rfl, Ju hJ (by (rfl)), (by ((try clear S); (try clear E); (simp; done)))⟩ ?_ ?_ ?_
 clear E S
 ·rintro lb_4 rec_5 pre x _ a w b6 _ G a3 b2 rfl ⟨c0, rfl, f0, f1⟩ E S
  replace E : Env a 17 [] [(6, .int .i64 x), (2, .pointer (some ⟨bx2, 0, none⟩)), (3, .pointer (some ⟨a9, 0, none⟩)), (5, v1)] := E
  replace S := S.swap.unpack1
  have hq0 := Js b2
  replace hbx1 := a3.2 _ _ hbx1
  replace hbx2 := a3.2 _ _ hbx2
  replace h2 := h2.le a3
  replace a2 := a3.2 _ _ a2
  have hall := f1
  refine Qh (Qj E Y ?_)
  clear E a; intro a E
  refine Qz ?_
  replace S := S.front1
  refine rb S ?_
  clear S; intro w S
  refine QW (Qs (Qb E Y Tryz.isAgg95 S.imm (Qf hbx2) fun _ B => Qn B Y ?_))
  clear E a B; intro a E
  refine Qk (Qm E S Y Y Y (h2.2 x) lerf ?_)
  clear E a S; rintro a _ w b3 a1 rfl S E
  replace hbx1 := a1.2 _ _ hbx1
  replace a2 := a1.2 _ _ a2
  replace f0 := hJM _ _ _ _ a1 f0
  refine Ji E Y fun _ B => Qn B Y ?_
  clear E a B; intro a E
  refine Jo (!(f2 x)) (fun a4 => ?_) (fun a4 => ?_)
  ·replace E := E.val (t := 10) Y a4
   replace E := E.val (t := 11) Y a4
   refine Qe E Y Y Y Y fun _ B => Qe B Y Y Y Y fun _ C => Qe C Y Y Y Y fun _ D => Qe D Y Y Y Y fun _ F => JA F Y Y ?_
   clear E a B C D F; intro a E
   refine Qz ?_
   refine QY E Y Y ?_
   refine QM (ZC ?_)
   exact ⟨b3, _, a1, ⟨Y, .inr (Ju f0 (by (exact tw_stop (by assumption) hall (by (simpa using (show (!f2 x) = true by assumption))))))⟩, S⟩
  ·replace E := E.val (t := 10) Y a4
   replace E := E.val (t := 11) Y a4
   refine Qc E Y Y (Qb E Y Tryz.isAgg95 S.imm (Qf a2) fun _ B => Qc B Y Y (Qn B Y ?_))
   clear E a B; intro a E
   replace S := S.front1
   refine Qc E Y Y ?_
   refine Qk (JC (x := x) E S Y Y Y hY (a0.trans (a3.trans a1)) (by (exact tw_pref (by assumption) (by intro y hy; rw [List.mem_append] at hy; rcases hy with hy | hy; exact hall y hy; (simp at hy; rw [hy]; exact (by (simpa using (show (!f2 x) = false by assumption))))))) Y f0 ?_)
   clear E a S; rintro a w a5 a7 go_12 a8 f0 S E
   replace hbx1 := a8.2 _ _ hbx1
   cases go_12
   ·replace f0 : X (pre ++ [x]) a5 a7 := f0
    refine Qc E Y Y (Ji E Y fun _ B => JB B Y Y ?_)
    clear E a B; intro a E
    refine Qz ?_
    refine QY E Y Y ?_
    refine QM (ZC ?_)
    replace S := S.front1
    exact ⟨a5, _, (a1.trans a8), ⟨Y, .inl ⟨_, (by ((exact tw_pref (by assumption) (by intro y hy; rw [List.mem_append] at hy; rcases hy with hy | hy; exact hall y hy; (simp at hy; rw [hy]; exact (by first | assumption | (simpa using (show (!f2 x) = false by assumption)))))))), f0⟩⟩, S⟩
   ·replace f0 : J (pre ++ [x]) a5 a7 := f0
    refine Qc E Y Y (Ji E Y fun _ B => JB B Y Y ?_)
    clear E a B; intro a E
    refine Qz ?_
    refine QF E Y Y ?_
    refine Qx (ZK ?_)
    have S0 := S; clear S; have S := (St.pack [a7] S0).swap; clear S0
    exact ⟨a5, _, (a1.trans a8), ⟨_, Y, Ju f0 (by (rfl)), (by intro y hy; rw [List.mem_append] at hy; rcases hy with hy | hy; exact hall y hy; (simp at hy; rw [hy]; exact (by (simpa using (show (!f2 x) = false by assumption)))))⟩, S⟩
 ·rintro a w b4 _ D_14 b0 ⟨c0, rfl, f0, f1⟩ S E
  replace S := S.unpack1
  replace hbx1 := b0.2 _ _ hbx1
  refine ZK (Yh ?_)
  replace S := S.front1
  have hpre : l1 = (l1).takeWhile f2 := by (exact (tw_all (by assumption)).symm)
  rw [hpre] at f0
  exact QR E S Tryz.results278 (fun w S => ⟨_, Y, b4, _, (a0.trans b0), .inl f0, S⟩)
 ·rintro a w b1 c_ D_16 b7 _ a6 b8 ⟨rfl, (⟨z_, hz_, f0⟩ | f0)⟩ S E
  ·replace hbx1 := a6.2 _ _ hbx1
   refine QM (ZC ?_)
   replace S := S.front1
   exact QR E S Tryz.results278 (fun w S => ⟨_, Y, b1, _, (a0.trans a6), .inr ⟨z_, (by assumption), f0⟩, S⟩)
  ·replace hbx1 := a6.2 _ _ hbx1
   refine QM (ZC ?_)
   replace S := S.front1
   exact QR E S Tryz.results278 (fun w S => ⟨_, Y, b1, _, (a0.trans a6), .inl f0, S⟩)
theorem it_TakeWhile {M : Hp} {v0 : Value} {l0 : List Int} (h0 : Jh Tryz.prog v0 M (QB) l0){v1 : Value} {f1 : Int → Bool} (h1 : Gj Tryz.prog v1 M f1) :
  Pu Tryz.prog (.func (.func 201) #[] #[]) M [v0, v1] (fun r M' => Jh Tryz.prog r M' QB ((l0).takeWhile f1)) := by
 refine Qd Tryz.func201 Y Tryz.ntmps201 Y Tryz.call201 ?_
 intro a w M1 H hM1 S E
 replace h0 := h0.le hM1
 replace h1 := h1.le hM1
 refine Qs ?_
 refine Qk (QA (cs := #[v0]) E S Y Y (cells_one h0.1) ?_)
 clear E a S; rintro a w a5 E S
 obtain ⟨a6, a1, a2, S⟩ := S.freezeB
 replace h0 := h0.le a1
 replace h1 := h1.le a1
 refine Qk (QA (cs := #[v1]) E S Y Y (cells_one h1.1) ?_)
 clear E a S; rintro a w a7 E S
 obtain ⟨a3, a0, a4, S⟩ := S.freezeB
 replace h0 := h0.le a0
 replace h1 := h1.le a0
 replace a2 := a0.2 _ _ a2
 refine Qj E Y fun _ B => QI (Qv B Y Y fun _ C => Qj C Y ?_)
 clear E a B C; intro a E
 refine Jj ?_
 exact Qa E Tryz.results201 Y ⟨_, Y, a3, (a1.trans a0), (Jy (it_TakeWhile1 (f2 := f1) h1 a2 h0 a4) (by (rfl))), S⟩
theorem qW {M : Hp} {v0 : Value} {l0 : List Int} (h0 : Qy M v0 l0){pk1 pn1 : Int} {w1 : Value} {pl1 : List Int} (hw1 : Qy M w1 pl1) (gn1 : -9223372036854775808 ≤ pn1 ∧ pn1 ≤ 9223372036854775807) (hb : l0.length ≤ 1000000000000) :
  Pu Tryz.prog (.func (.func 80) #[] #[]) M [v0, .agg #[.int .i64 pk1, .int .i64 pn1, w1]] (fun r M' => Qy M' r ((l0).takeWhile (fun x => Jv pk1 pn1 pl1 x 0))) := by
 refine Qd Tryz.func80 Y Tryz.ntmps80 Y Tryz.call80 ?_
 intro a w M1 H hM1 S E
 replace h0 := h0.le hM1
 replace hw1 := hw1.le hM1
 have b0 := h0.bound
 have hwl := twlen (fun x => Jv pk1 pn1 pl1 x 0) l0
 refine Qs ?_
 refine Qk (QA (cs := #[.int .i64 pk1, .int .i64 pn1, w1]) E S Y Y Y ?_)
 clear E a S; rintro a w b1 E S
 obtain ⟨a4, a1, a5, S⟩ := S.freezeB
 replace h0 := h0.le a1
 replace hw1 := hw1.le a1
 refine Qj E Y ?_
 clear E a; intro a E
 refine ZJ ?_
 have hb_1k2 := a5
 replace S := S.mono_heap (w' := World.drew _) rfl
 refine Jb (C := fun x w => agree a4 w) (bf := (fun i => [])) [0, 2, 3, 6] [0, 2, 3, 1, 4, 5, 6] Tryz.mixed (by kernel_rfl) (fun x hq => S.imm) ?_
 refine QU E Y (fun w hC => (QL E Y)) fun _ B => QU B Y (fun w hC => (ZW B Y (Tryz.isAgg27 _) (Tryz.sizeOf27 _) hC hb_1k2)) fun _ D => QU D Y (fun w hC => (ZV D Y Y)) ?_
 clear E a B D; intro a E
 refine ZP Y Y Y (Qm E S Y Y Y (QG h0) lerf ?_)
 clear E a S; rintro a b2 w b3 a0 a6 S E
 replace hw1 := hw1.le a0
 refine ⟨fun x hq hb => (Qu a0 S.imm), ?_⟩
 refine ZP Y Y Y (Qm E S Y Y Y (it_TakeWhile a6 ⟨Y, fun zx1 => GJ (x1 := zx1) hw1 (by omega)⟩) lerf ?_)
 clear E a S; rintro a b4 w b5 a2 a7 S E
 refine ⟨fun x hq hb => (Qu (a0.trans a2) S.imm), ?_⟩
 refine ZP Y Y Y (Qm E S Y Y Y (QJ a7 (by omega)) lerf ?_)
 clear E a S; rintro a b6 w a8 a3 a9 S E
 refine ⟨fun x hq hb => (Qu (a0.trans (a2.trans a3)) S.imm), ?_⟩
 refine QU E Y (fun w hC => (Jx E Y)) ?_
 clear E a; intro a E
 refine JI (JH ?_)
 refine JZ (QM ?_)
 exact Qa E Tryz.results80 Y ⟨_, Y, a8, (a1.trans (a0.trans (a2.trans a3))), a9, S⟩
theorem it_DropWhile1 {M : Hp} {v1 : Value} {l1 : List Int} {v2 : Value} {f2 : Int → Bool} (h2 : Gj Tryz.prog v2 M f2) {bx1 bx2 : Nat} (hbx1 : M bx1 = some (.cells #[v1] 62)) (h1 : Jh Tryz.prog v1 M QB l1) (hbx2 : M bx2 = some (.cells #[v2] 95)) :
  Jh Tryz.prog (.func (.func 279) #[] #[.pointer (some ⟨bx1, 0, none⟩), .pointer (some ⟨bx2, 0, none⟩)]) M (QB) ((l1).dropWhile f2) := by
 refine Jw Tryz.func279 Y Tryz.ntmps279 Y Tryz.call279 ?_
 intro y J X a w M1 c H hJM hM1 hY hJ S E
 replace hbx1 := hM1.2 _ _ hbx1
 replace hbx2 := hM1.2 _ _ hbx2
 replace h1 := h1.le hM1
 replace h2 := h2.le hM1
 refine Qs ?_
 refine Qk (QA (cs := #[y]) E S Y Y (cells_one hY.1) ?_)
 clear E a S; rintro a w b2 E S
 obtain ⟨c1, a0, a1, S⟩ := S.freezeB
 replace hbx1 := a0.2 _ _ hbx1
 replace hbx2 := a0.2 _ _ hbx2
 replace h1 := h1.le a0
 replace h2 := h2.le a0
 replace hJ := hJM _ _ _ _ a0 hJ
 refine QI ?_
 refine Qk (Ja (cs := #[.bool false]) E S Y Tryz.zeroValue4 Y ?_)
 clear E a S; rintro a w a2 E S
 refine Jm (QS E S Y Y (Tryz.sizeOf4 _) Y ?_)
 clear E a S; rintro a w E S
 refine QI (Qb E Y Tryz.isAgg62 S.imm (Qf hbx1) ?_)
 clear E a; intro a E
 refine ZH ?_
 replace S := S.front2.front1
 replace E := E.keep (l' := [(2, .pointer (some ⟨bx2, 0, none⟩)), (3, .pointer (some ⟨b2, 0, none⟩)), (4, .pointer (some ⟨a2, 0, none⟩)), (6, v1)]) ⟨Y, Y, Y, Y, trivial⟩
 replace S := S.front1.front1
 replace S := S.blk_bool (j := (([] : List Int)).all f2) (by ((simp; done)))
 have S0 := S; clear S; have S := St.pack [Jk a2 (.cells #[.bool ((([] : List Int)).all f2)] 4), c] S0; clear S0
 refine JK (RV := QB) (l := l1) (fun pre M c => ∃ (c0 : Qr), c = Yf [Jk a2 (.cells #[.bool ((pre).all f2)] 4), c0] ∧ (J ((pre).dropWhile f2) M c0)) (fun cd pre M c => cd = .ret ∧ ∃ z, z <+: ((l1).dropWhile f2) ∧ X z M c) E S Y h1 lerf (fun _ _ _ h => by rw [h]; rfl) (by decide) (by rintro _ M M' c hM ⟨c0, rfl, f0⟩; exact ⟨_, rfl, hJM _ _ _ _ hM f0⟩) ⟨_, rfl, Ju hJ (by (rfl))⟩ ?_ ?_ ?_
 clear E S
 ·rintro lb_5 rec_6 pre x _ a w c2 _ G a4 b4 rfl ⟨c0, rfl, f0⟩ E S
  replace E : Env a 22 [] [(7, .int .i64 x), (2, .pointer (some ⟨bx2, 0, none⟩)), (3, .pointer (some ⟨b2, 0, none⟩)), (4, .pointer (some ⟨a2, 0, none⟩)), (6, v1)] := E
  replace S := S.swap.unpack2
  have hq0 := Js b4
  replace hbx2 := a4.2 _ _ hbx2
  replace h2 := h2.le a4
  replace a1 := a4.2 _ _ a1
  refine Qh (Qj E Y ?_)
  clear E a; intro a E
  refine Qz ?_
  replace S := S.front2
  refine rb S ?_
  clear S; intro w S
  refine QW (Qs (QH E Y (Tryz.isAgg4 _) (Qo (S.mem (.tail _ (.head _)))) fun _ B => Qn B Y ?_))
  clear E a B; intro a E
  refine Jo ((pre).all f2) (fun a5 => ?_) (fun a5 => ?_)
  ·replace E := E.val (t := 8) Y a5
   replace E := E.val (t := 9) Y a5
   refine Qc E Y Y (Qb E Y Tryz.isAgg95 S.imm (Qf hbx2) fun _ B => Qc B Y Y (Qn B Y ?_))
   clear E a B; intro a E
   refine Qc E Y Y ?_
   refine Qk (Qm E S Y Y Y (h2.2 x) lerf ?_)
   clear E a S; rintro a _ w b5 a3 rfl S E
   replace a1 := a3.2 _ _ a1
   replace f0 := hJM _ _ _ _ a3 f0
   refine JA E Y Y ?_
   clear E a; intro a E
   replace S := S.front1
   refine Jm (QS E S Y Y (Tryz.sizeOf4 _) Y ?_)
   clear E a S; rintro a w E S
   refine QI (QH E Y (Tryz.isAgg4 _) (Qo (S.mem (.head _))) fun _ B => Ji B Y fun _ C => Qn C Y ?_)
   clear E a B C; intro a E
   refine Jo (!(f2 x)) (fun a6 => ?_) (fun a6 => ?_)
   ·replace E := E.val (t := 15) Y a6
    replace E := E.val (t := 16) Y a6
    refine Qc E Y Y (Qb E Y Tryz.isAgg95 S.imm (Qf a1) fun _ B => Qc B Y Y (Qn B Y ?_))
    clear E a B; intro a E
    replace S := S.front2
    refine Qc E Y Y ?_
    refine Qk (JC (x := x) E S Y Y Y hY (a0.trans (a4.trans a3)) (by (exact Wd (by assumption) (ya (by first | assumption | (simpa using (show (!f2 x) = true by assumption)))))) Y f0 ?_)
    clear E a S; rintro a w a7 a9 go_14 b0 f0 S E
    replace a1 := b0.2 _ _ a1
    cases go_14
    ·replace f0 : X ((pre).dropWhile f2 ++ [x]) a7 a9 := f0
     refine Qc E Y Y (Ji E Y fun _ B => JA B Y Y ?_)
     clear E a B; intro a E
     refine Qz ?_
     refine QY E Y Y ?_
     refine QM (ZC ?_)
     replace S := S.front1.drop.front1
     exact ⟨a7, _, (a3.trans b0), ⟨Y, _, (by ((first | exact Wd (by assumption) (yb (by assumption)) | exact Wd (by assumption) (ya (by first | assumption | (simpa using (show (!f2 x) = true by assumption))))))), f0⟩, S⟩
    ·replace f0 : J ((pre).dropWhile f2 ++ [x]) a7 a9 := f0
     refine Qc E Y Y (Ji E Y fun _ B => JA B Y Y ?_)
     clear E a B; intro a E
     refine Qz ?_
     refine QF E Y Y ?_
     refine Qx (ZK ?_)
     replace S := S.front1.front1.front1
     replace S := S.blk_bool (j := ((pre ++ [x])).all f2) (by ((rw [List.all_append, show pre.all f2 = true by assumption]; simp; done)))
     have S0 := S; clear S; have S := (St.pack [Jk a2 (.cells #[.bool (((pre ++ [x])).all f2)] 4), a9] S0).swap; clear S0
     exact ⟨a7, _, (a3.trans b0), ⟨_, Y, Ju f0 (by (exact (ya (by first | assumption | (simpa using (show (!f2 x) = true by assumption)))).symm))⟩, S⟩
   ·replace E := E.val (t := 15) Y a6
    replace E := E.val (t := 16) Y a6
    refine Qe E Y Y Y Y fun _ B => Qe B Y Y Y Y fun _ C => Qe C Y Y Y Y fun _ D => Qe D Y Y Y Y fun _ F => JB F Y Y ?_
    clear E a B C D F; intro a E
    refine Qz ?_
    refine QF E Y Y ?_
    refine Qx (ZK ?_)
    replace S := S.front2.front1.front1.front1
    replace S := S.blk_bool (j := ((pre ++ [x])).all f2) (by ((rw [List.all_append, show pre.all f2 = true by assumption]; simp; done)))
    have S0 := S; clear S; have S := (St.pack [Jk a2 (.cells #[.bool (((pre ++ [x])).all f2)] 4), c0] S0).swap; clear S0
    exact ⟨b5, _, a3, ⟨_, Y, Ju f0 (by (exact (dwa_yes (by assumption) (by first | assumption | (simpa using (show (!f2 x) = false by assumption)))).symm))⟩, S⟩
  ·replace E := E.val (t := 8) Y a5
   replace E := E.val (t := 9) Y a5
   refine Qe E Y Y Y Y fun _ B => Qe B Y Y Y Y fun _ C => Qe C Y Y Y Y fun _ D => JB D Y Y ?_
   clear E a B C D; intro a E
   replace S := S.front1
   refine Jm (QS E S Y Y (Tryz.sizeOf4 _) Y ?_)
   clear E a S; rintro a w E S
   refine QI (QH E Y (Tryz.isAgg4 _) (Qo (S.mem (.head _))) fun _ B => Ji B Y fun _ C => Qn C Y fun _ D => Qc D Y Y (Qb D Y Tryz.isAgg95 S.imm (Qf a1) fun _ F => Qc F Y Y (Qn F Y ?_)))
   clear E a B C D F; intro a E
   replace S := S.front2
   refine Qc E Y Y ?_
   refine Qk (JC (x := x) E S Y Y Y hY (a0.trans a4) (by (exact Wd (by assumption) (yb (by assumption)))) Y f0 ?_)
   clear E a S; rintro a w a8 b1 go_17 b3 f0 S E
   cases go_17
   ·replace f0 : X ((pre).dropWhile f2 ++ [x]) a8 b1 := f0
    refine Qc E Y Y (Ji E Y fun _ B => JA B Y Y ?_)
    clear E a B; intro a E
    refine Qz ?_
    refine QY E Y Y ?_
    refine QM (ZC ?_)
    replace S := S.front1.drop.front1
    exact ⟨a8, _, b3, ⟨Y, _, (by ((first | exact Wd (by assumption) (yb (by assumption)) | exact Wd (by assumption) (ya (by first | assumption | (simpa using (show (!f2 x) = true by assumption))))))), f0⟩, S⟩
   ·replace f0 : J ((pre).dropWhile f2 ++ [x]) a8 b1 := f0
    refine Qc E Y Y (Ji E Y fun _ B => JA B Y Y ?_)
    clear E a B; intro a E
    refine Qz ?_
    refine QF E Y Y ?_
    refine Qx (ZK ?_)
    replace S := S.front1.front1.front1
    replace S := S.blk_bool (j := ((pre ++ [x])).all f2) (by ((rw [List.all_append, show pre.all f2 = false by assumption]; simp; done)))
    have S0 := S; clear S; have S := (St.pack [Jk a2 (.cells #[.bool (((pre ++ [x])).all f2)] 4), b1] S0).swap; clear S0
    exact ⟨a8, _, b3, ⟨_, Y, Ju f0 (by (exact (yb (by assumption)).symm))⟩, S⟩
 ·rintro a w b6 _ D_19 b7 ⟨c0, rfl, f0⟩ S E
  replace S := S.unpack2
  refine ZK (Yh ?_)
  replace S := S.drop.front1
  exact QR E S Tryz.results279 (fun w S => ⟨_, Y, b6, _, (a0.trans b7), .inl f0, S⟩)
 ·rintro a w b8 c_ D_21 c3 _ b9 c4 ⟨rfl, z_, hz_, f0⟩ S E
  refine QM (ZC ?_)
  replace S := S.front1
  exact QR E S Tryz.results279 (fun w S => ⟨_, Y, b8, _, (a0.trans b9), .inr ⟨z_, (by assumption), f0⟩, S⟩)
theorem Wu {M : Hp} {v0 : Value} {l0 : List Int} (h0 : Jh Tryz.prog v0 M (QB) l0){v1 : Value} {f1 : Int → Bool} (h1 : Gj Tryz.prog v1 M f1) :
  Pu Tryz.prog (.func (.func 202) #[] #[]) M [v0, v1] (fun r M' => Jh Tryz.prog r M' QB ((l0).dropWhile f1)) := by
 refine Qd Tryz.func202 Y Tryz.ntmps202 Y Tryz.call202 ?_
 intro a w M1 H hM1 S E
 replace h0 := h0.le hM1
 replace h1 := h1.le hM1
 refine Qs ?_
 refine Qk (QA (cs := #[v0]) E S Y Y (cells_one h0.1) ?_)
 clear E a S; rintro a w a5 E S
 obtain ⟨a6, a1, a2, S⟩ := S.freezeB
 replace h0 := h0.le a1
 replace h1 := h1.le a1
 refine Qk (QA (cs := #[v1]) E S Y Y (cells_one h1.1) ?_)
 clear E a S; rintro a w a7 E S
 obtain ⟨a3, a0, a4, S⟩ := S.freezeB
 replace h0 := h0.le a0
 replace h1 := h1.le a0
 replace a2 := a0.2 _ _ a2
 refine Qj E Y fun _ B => QI (Qv B Y Y fun _ C => Qj C Y ?_)
 clear E a B C; intro a E
 refine Jj ?_
 exact Qa E Tryz.results202 Y ⟨_, Y, a3, (a1.trans a0), (Jy (it_DropWhile1 (f2 := f1) h1 a2 h0 a4) (by (rfl))), S⟩
theorem qZ {M : Hp} {v0 : Value} {l0 : List Int} (h0 : Qy M v0 l0){pk1 pn1 : Int} {w1 : Value} {pl1 : List Int} (hw1 : Qy M w1 pl1) (gn1 : -9223372036854775808 ≤ pn1 ∧ pn1 ≤ 9223372036854775807) (hb : l0.length ≤ 1000000000000) :
  Pu Tryz.prog (.func (.func 81) #[] #[]) M [v0, .agg #[.int .i64 pk1, .int .i64 pn1, w1]] (fun r M' => Qy M' r ((l0).dropWhile (fun x => Jv pk1 pn1 pl1 x 0))) := by
 refine Qd Tryz.func81 Y Tryz.ntmps81 Y Tryz.call81 ?_
 intro a w M1 H hM1 S E
 replace h0 := h0.le hM1
 replace hw1 := hw1.le hM1
 have b0 := h0.bound
 have hwl := vv (fun x => Jv pk1 pn1 pl1 x 0) l0
 refine Qs ?_
 refine Qk (QA (cs := #[.int .i64 pk1, .int .i64 pn1, w1]) E S Y Y Y ?_)
 clear E a S; rintro a w b1 E S
 obtain ⟨a4, a1, a5, S⟩ := S.freezeB
 replace h0 := h0.le a1
 replace hw1 := hw1.le a1
 refine Qj E Y ?_
 clear E a; intro a E
 refine ZJ ?_
 have hb_1k2 := a5
 replace S := S.mono_heap (w' := World.drew _) rfl
 refine Jb (C := fun x w => agree a4 w) (bf := (fun i => [])) [0, 2, 3, 6] [0, 2, 3, 1, 4, 5, 6] Tryz.mixed (by kernel_rfl) (fun x hq => S.imm) ?_
 refine QU E Y (fun w hC => (QL E Y)) fun _ B => QU B Y (fun w hC => (ZW B Y (Tryz.isAgg27 _) (Tryz.sizeOf27 _) hC hb_1k2)) fun _ D => QU D Y (fun w hC => (ZV D Y Y)) ?_
 clear E a B D; intro a E
 refine ZP Y Y Y (Qm E S Y Y Y (QG h0) lerf ?_)
 clear E a S; rintro a b2 w b3 a0 a6 S E
 replace hw1 := hw1.le a0
 refine ⟨fun x hq hb => (Qu a0 S.imm), ?_⟩
 refine ZP Y Y Y (Qm E S Y Y Y (Wu a6 ⟨Y, fun zx1 => GJ (x1 := zx1) hw1 (by omega)⟩) lerf ?_)
 clear E a S; rintro a b4 w b5 a2 a7 S E
 refine ⟨fun x hq hb => (Qu (a0.trans a2) S.imm), ?_⟩
 refine ZP Y Y Y (Qm E S Y Y Y (QJ a7 (by omega)) lerf ?_)
 clear E a S; rintro a b6 w a8 a3 a9 S E
 refine ⟨fun x hq hb => (Qu (a0.trans (a2.trans a3)) S.imm), ?_⟩
 refine QU E Y (fun w hC => (Jx E Y)) ?_
 clear E a; intro a E
 refine JI (JH ?_)
 refine JZ (QM ?_)
 exact Qa E Tryz.results81 Y ⟨_, Y, a8, (a1.trans (a0.trans (a2.trans a3))), a9, S⟩
theorem qQ {M : Hp} {v1 : Value} {l1 : List Int} {v2 : Value} {f2 : Int → Bool} (h2 : Gj Tryz.prog v2 M f2) {bx1 bx2 : Nat} (hbx1 : M bx1 = some (.cells #[v1] 62)) (h1 : Jh Tryz.prog v1 M QB l1) (hbx2 : M bx2 = some (.cells #[v2] 95)) (hb : l1.length ≤ 1000000000000) :
  Jh Tryz.prog (.func (.func 280) #[] #[.pointer (some ⟨bx1, 0, none⟩), .pointer (some ⟨bx2, 0, none⟩)]) M (QB) (VE f2 l1) := by
 refine Jw Tryz.func280 Y Tryz.ntmps280 Y Tryz.call280 ?_
 intro y J X a w M1 c H hJM hM1 hY hJ S E
 replace hbx1 := hM1.2 _ _ hbx1
 replace hbx2 := hM1.2 _ _ hbx2
 replace h1 := h1.le hM1
 replace h2 := h2.le hM1
 refine Qs ?_
 refine Qk (QA (cs := #[y]) E S Y Y (cells_one hY.1) ?_)
 clear E a S; rintro a w b2 E S
 obtain ⟨d4, a2, a0, S⟩ := S.freezeB
 replace hbx1 := a2.2 _ _ hbx1
 replace hbx2 := a2.2 _ _ hbx2
 replace h1 := h1.le a2
 replace h2 := h2.le a2
 replace hJ := hJM _ _ _ _ a2 hJ
 refine QI ?_
 refine Qk (Ja (cs := #[.slice none 0 0]) E S Y Tryz.zeroValue22 Y ?_)
 clear E a S; rintro a w a3 E S
 refine QI (Qb E Y Tryz.isAgg62 S.imm (Qf hbx1) ?_)
 clear E a; intro a E
 refine ZH ?_
 replace S := (S.ownNil (e := 3) (sz := 1)).made0
 replace S := S.front3.front1.front2
 replace E := E.keep (l' := [(2, .pointer (some ⟨bx2, 0, none⟩)), (3, .pointer (some ⟨b2, 0, none⟩)), (4, .pointer (some ⟨a3, 0, none⟩)), (7, v1)]) ⟨Y, Y, Y, Y, trivial⟩
 replace S := S.front2.front2
 replace S := S.re1 (l' := Wk f2 (([] : List Int))) (by (simp [Wk]; done))
 replace S := S.front2
 have S0 := S; clear S; have S := St.pack [Jk a3 (.cells #[(.slice none 0 0)] 22), Jg 3 (.slice none 0 0) (Wk f2 (([] : List Int))), c] S0; clear S0
 refine JK (RV := QB) (l := l1) (fun pre M c => ∃ (u4 : Value) (c0 : Qr), c = Yf [Jk a3 (.cells #[u4] 22), Jg 3 u4 (Wk f2 (pre)), c0] ∧ (J (VE f2 (pre)) M c0)) (fun cd pre M c => cd = .ret ∧ ∃ z, z <+: (VE f2 l1) ∧ X z M c) E S Y h1 lerf (fun _ _ _ h => by rw [h]; rfl) (by decide) (by rintro _ M M' c hM ⟨u4, c0, rfl, f0⟩; exact ⟨_, _, rfl, hJM _ _ _ _ hM f0⟩) ⟨_, _, rfl, Ju hJ (by (simp [VE]))⟩ ?_ ?_ ?_
 clear E S
 ·rintro lb_6 rec_7 pre x _ a w d5 _ G a5 b7 rfl ⟨u4, c0, rfl, f0⟩ E S
  replace E : Env a 38 [] [(8, .int .i64 x), (2, .pointer (some ⟨bx2, 0, none⟩)), (3, .pointer (some ⟨b2, 0, none⟩)), (4, .pointer (some ⟨a3, 0, none⟩)), (7, v1)] := E
  replace S := S.swap.unpack3
  have hq0 := Js b7
  replace hbx2 := a5.2 _ _ hbx2
  replace h2 := h2.le a5
  replace a0 := a5.2 _ _ a0
  have hpl := b7.length_le; simp at hpl; have hrt := congrArg List.length (YW f2 pre); simp at hrt
  refine Qh (Qj E Y ?_)
  clear E a; intro a E
  refine Qz ?_
  replace S := S.front3
  refine rb S ?_
  clear S; intro w S
  refine QW (UK (Qb E Y Tryz.isAgg95 S.imm (Qf hbx2) fun _ B => Qn B Y ?_))
  clear E a B; intro a E
  refine Qk (Qm E S Y Y Y (h2.2 x) lerf ?_)
  clear E a S; rintro a _ w b3 a1 rfl S E
  replace a0 := a1.2 _ _ a0
  replace f0 := hJM _ _ _ _ a1 f0
  refine Qz ?_
  refine Jf E Y (fun c4 => ?_) (fun c4 => ?_)
  ·refine Je ?_
   refine Qh (QH E Y (Tryz.isAgg22 _) (Qo (S.mem (.tail _ (.head _)))) fun _ B => Qn B Y ?_)
   clear E a B; intro a E
   refine Qk (QV (ys := [x]) E S Y QE Y Y Y ?_)
   clear E a S; rintro a w d6 E S
   replace S := S.front3.front1
   refine Qk (JF (xs := Wk f2 (pre)) (ys := [x]) E S Y Y Y QE (by (simp; omega)) ?_)
   clear E a S; rintro a w b8 E S
   have ho_14 := S.oneI
   replace S := S.front2
   refine Jm (QS E S Y Y (Tryz.sizeOf22 _) ho_14 ?_)
   clear E a S; rintro a w E S
   refine Qz (JO (Ul (zx ?_)))
   replace S := S.front3.front2.front2.front2.front2
   replace S := S.re1 (l' := Wk f2 ((pre ++ [x]))) (by (rw [rtw_yes (by assumption)]; done))
   replace S := S.front2
   have S0 := S; clear S; have S := (St.pack [Jk a3 (.cells #[b8] 22), Jg 3 b8 (Wk f2 ((pre ++ [x]))), c0] S0).swap; clear S0
   exact ⟨b3, _, a1, ⟨_, _, Y, Ju f0 (by ((rw [drw_yes (by assumption)]; done)))⟩, S⟩
  ·refine Qx ?_
   refine JZ (UK (QH E Y (Tryz.isAgg22 _) (Qo (S.mem (.tail _ (.head _)))) ?_))
   clear E a; intro a E
   replace S := S.front2
   refine Qt E Y QE S.lenC fun _ B => Ys B Y Y ?_
   clear E a B; intro a E
   refine Qz ?_
   refine Ql E Y (fun c5 => ?_) (fun c5 => ?_)
   ·refine UK (QH E Y (Tryz.isAgg22 _) (Qo (S.mem (.tail _ (.tail _ (.head _))))) fun _ B => Qt B Y QE S.lenC fun _ D => Qn D Y ?_)
    clear E a B D; intro a E
    refine ZH ?_
    refine QN (γ := Nat) (fun (k : Nat) a w => ∃ (a6 : Hp) (cL1 : Qr), Hp.le b3 a6 ∧ St w a6 (Jg 3 u4 (Wk f2 (pre)) :: lp lb_6 rec_7 .busy none :: Jk a3 (.cells #[u4] 22) :: cL1 :: G) ∧ Env a 38 [] [(3, .pointer (some ⟨b2, 0, none⟩)), (4, .pointer (some ⟨a3, 0, none⟩)), (5, .int .i64 x), (20, .int .i64 (((Wk f2 (pre)).length : Nat) : Int)), (21, .int .i64 ((k : Nat) : Int))] ∧ (k ≤ (Wk f2 (pre)).length) ∧ J (VE f2 pre ++ (Wk f2 pre).take k) a6 cL1) (fun k => ((Wk f2 (pre)).length) - k) 0 ⟨b3, _, lerf, S, E.keep ⟨Y, Y, Y, Y, Y, trivial⟩, by (omega), Ju f0 (by (simp))⟩ ?_
    try clear E
    try clear S
    try clear a
    try clear w
    rintro k a w ⟨a6, cL1, a4, S, E, d7, f0⟩
    replace a0 := a4.2 _ _ a0
    refine Qs (Jc E Y Y ?_)
    clear E a; intro a E
    refine ZJ ?_
    refine Ql E Y (fun c6 => ?_) (fun c6 => ?_)
    ·refine YZ (QD 2 E Y ?_)
     clear E a; intro a E
     refine ZJ ?_
     have hb_1k17 := a0
     replace S := S.mono_heap (w' := World.drew _) rfl
     obtain ⟨c7, b9⟩ := S.ptrC (k := k) (by omega)
     obtain ⟨a7, c8⟩ : ∃ x, (Wk f2 (pre))[k]? = some x := ⟨_, List.getElem?_eq_getElem (by omega)⟩
     refine Jb (C := fun x w => agree a6 w ∧ (x = 1 → w.heap[a3]? = some (.cells #[u4] 22)) ∧ (x = 4 → w.cell? c7 = some (.int .i64 a7))) (bf := (fun i => bif Nat.beq i 5 then [1, 4] else [])) [0, 1, 2, 3, 4, 6] [0, 1, 2, 3, 4, 5, 6] Tryz.mixed (by kernel_rfl) (fun x hq => ⟨S.imm, fun _ => (S.mem (.tail _ (.tail _ (.head _)))), fun _ => S.cellI b9 c8⟩) ?_
     refine QU E Y (fun w hC => (QQ E Y Tryz.isAgg95 hC.1 (Qf hb_1k17))) fun _ B => QU B Y (fun w hC => (ZF B Y (Tryz.isAgg22 _) (Qo (hC.2.1 Y)))) fun _ D => QU D Y (fun w hC => (QL D Y)) fun _ F => QU F Y (fun w hC => (ZO F Y Y QE b9 Y)) fun _ I => QU I Y (fun w hC => (ZF I Y (Tryz.isAgg3 _) (hC.2.2 Y))) ?_
     clear E a B D F I; intro a E
     replace S := S.front3
     refine ZP Y Y Y (JC (x := a7) E S Y Y Y hY (a2.trans (a5.trans (a1.trans a4))) (by (exact GD (by assumption) (by assumption) (by assumption))) Y f0 ?_)
     clear E a S; rintro a w a8 c1 go_22 a9 f0 S E
     replace a0 := a9.2 _ _ a0
     refine ⟨fun x hq hb => ⟨(Qu a9 S.imm), (fun e => by subst e; exact absurd hb (by decide)), (fun e => by subst e; exact absurd hb (by decide))⟩, ?_⟩
     cases go_22
     ·replace f0 : X (VE f2 pre ++ (Wk f2 pre).take k ++ [a7]) a8 c1 := f0
      refine QU E Y (fun w hC => (YN E Y)) ?_
      clear E a; intro a E
      refine JI (JH ?_)
      refine JZ ?_
      refine QY E Y Y ?_
      refine QM (ZC (J_u (ZC (J_u (ZC ?_)))))
      replace S := S.front1.drop.front2.drop.front1
      exact ⟨a8, _, (a1.trans (a4.trans a9)), ⟨Y, _, (by ((first | exact GD (by assumption) (by assumption) (by assumption) | (rw [List.take_of_length_le (by omega), YW]; exact We (by assumption) (by assumption)) | exact GE (by assumption) (by assumption) (by omega)))), f0⟩, S⟩
     ·replace f0 : J (VE f2 pre ++ (Wk f2 pre).take k ++ [a7]) a8 c1 := f0
      refine QU E Y (fun w hC => (YN E Y)) ?_
      clear E a; intro a E
      refine JI (JH ?_)
      refine JZ ?_
      refine QF E Y Y ?_
      refine zu (Qp (m := ((k + 1 : Nat) : Int)) E Y Y fun _ B => Qn B Y ?_)
      clear E a B; intro a E
      refine Qz ?_
      replace S := S.front3.front3.front3
      exact ⟨k + 1, ⟨a8, _, (a4.trans a9), S, E.keep ⟨Y, Y, Y, Y, Y, trivial⟩, by (omega), Ju f0 (by (rw [List.append_assoc, YP (by assumption)]))⟩, by omega⟩
    ·refine JO (Ul (Ul (zx (JZ (Qh (QH E Y (Tryz.isAgg22 _) (Qo (S.mem (.tail _ (.tail _ (.head _))))) ?_))))))
     clear E a; intro a E
     obtain ⟨c2, c9, S⟩ := S.cutI (k := 0) (by omega)
     refine Uf E Y Y QE c9 ?_
     clear E a; intro a E
     have ho_24 := S.oneI
     replace S := S.front2
     refine Jm (QS E S Y Y (Tryz.sizeOf22 _) ho_24 ?_)
     clear E a S; rintro a w E S
     refine QI (Qb E Y Tryz.isAgg95 S.imm (Qf a0) fun _ B => Qn B Y ?_)
     clear E a B; intro a E
     replace S := S.front3
     refine Qk (JC (x := x) E S Y Y Y hY (a2.trans (a5.trans (a1.trans a4))) (by ((rw [List.take_of_length_le (by omega), YW]; exact We (by assumption) (by assumption)))) Y f0 ?_)
     clear E a S; rintro a w b0 b4 go_27 b5 f0 S E
     replace a0 := b5.2 _ _ a0
     cases go_27
     ·replace f0 : X (VE f2 pre ++ (Wk f2 pre).take k ++ [x]) b0 b4 := f0
      refine Ji E Y ?_
      clear E a; intro a E
      refine Qz ?_
      refine QY E Y Y ?_
      refine QM (ZC ?_)
      replace S := S.front1.drop.front1.drop.front1
      exact ⟨b0, _, (a1.trans (a4.trans b5)), ⟨Y, _, (by ((first | exact GD (by assumption) (by assumption) (by assumption) | (rw [List.take_of_length_le (by omega), YW]; exact We (by assumption) (by assumption)) | exact GE (by assumption) (by assumption) (by omega)))), f0⟩, S⟩
     ·replace f0 : J (VE f2 pre ++ (Wk f2 pre).take k ++ [x]) b0 b4 := f0
      refine Ji E Y ?_
      clear E a; intro a E
      refine Qz ?_
      refine QF E Y Y ?_
      refine Qx (ZK ?_)
      replace S := S.front2.front2.front2.front2
      replace S := S.re1 (l' := Wk f2 ((pre ++ [x]))) (by (rw [rtw_no (by assumption)]; simp; done))
      replace S := S.front2
      have S0 := S; clear S; have S := (St.pack [Jk a3 (.cells #[c2] 22), Jg 3 c2 (Wk f2 ((pre ++ [x]))), b4] S0).swap; clear S0
      exact ⟨b0, _, (a1.trans (a4.trans b5)), ⟨_, _, Y, Ju f0 (by ((rw [drw_no (by assumption), List.take_of_length_le (by omega), YW]; done)))⟩, S⟩
   ·refine VC (Qb E Y Tryz.isAgg95 S.imm (Qf a0) fun _ B => Qn B Y ?_)
    clear E a B; intro a E
    replace S := S.front3
    refine Qk (JC (x := x) E S Y Y Y hY (a2.trans (a5.trans a1)) (by (exact GE (by assumption) (by assumption) (by omega))) Y f0 ?_)
    clear E a S; rintro a w b1 b6 go_30 c3 f0 S E
    cases go_30
    ·replace f0 : X (VE f2 (pre) ++ [x]) b1 b6 := f0
     refine Ji E Y ?_
     clear E a; intro a E
     refine Qz ?_
     refine QY E Y Y ?_
     refine QM (ZC ?_)
     replace S := S.front1.drop.front2.drop.front1
     exact ⟨b1, _, (a1.trans c3), ⟨Y, _, (by ((first | exact GD (by assumption) (by assumption) (by assumption) | (rw [List.take_of_length_le (by omega), YW]; exact We (by assumption) (by assumption)) | exact GE (by assumption) (by assumption) (by omega)))), f0⟩, S⟩
    ·replace f0 : J (VE f2 (pre) ++ [x]) b1 b6 := f0
     refine Ji E Y ?_
     clear E a; intro a E
     refine Qz ?_
     refine QF E Y Y ?_
     refine Qx (ZK ?_)
     replace S := S.front1.front3.front2.front2
     replace S := S.re1 (l' := Wk f2 ((pre ++ [x]))) (by (rw [rtw_no (by assumption)]; exact List.eq_nil_of_length_eq_zero (by omega)))
     replace S := S.front2
     have S0 := S; clear S; have S := (St.pack [Jk a3 (.cells #[u4] 22), Jg 3 u4 (Wk f2 ((pre ++ [x]))), b6] S0).swap; clear S0
     exact ⟨b1, _, (a1.trans c3), ⟨_, _, Y, Ju f0 (by ((rw [drw_no (by assumption)]; have e := YW f2 pre; rw [List.eq_nil_of_length_eq_zero (l := Wk f2 pre) (by omega), List.append_nil] at e; rw [e])))⟩, S⟩
 ·rintro a w d0 _ D_32 d1 ⟨u4, c0, rfl, f0⟩ S E
  replace S := S.unpack3
  refine ZK (Yh ?_)
  replace S := S.drop.drop.front1
  have hpre : VE f2 (l1) = VE f2 l1 := by (rfl)
  rw [hpre] at f0
  exact QR E S Tryz.results280 (fun w S => ⟨_, Y, d0, _, (a2.trans d1), .inl f0, S⟩)
 ·rintro a w d2 c_ D_34 d8 _ d3 d9 ⟨rfl, z_, hz_, f0⟩ S E
  refine QM (ZC ?_)
  replace S := S.front1
  exact QR E S Tryz.results280 (fun w S => ⟨_, Y, d2, _, (a2.trans d3), .inr ⟨z_, (by assumption), f0⟩, S⟩)
theorem VP {M : Hp} {v0 : Value} {l0 : List Int} (h0 : Jh Tryz.prog v0 M (QB) l0){v1 : Value} {f1 : Int → Bool} (h1 : Gj Tryz.prog v1 M f1) (hb : l0.length ≤ 1000000000000) :
  Pu Tryz.prog (.func (.func 203) #[] #[]) M [v0, v1] (fun r M' => Jh Tryz.prog r M' QB (VE f1 l0)) := by
 refine Qd Tryz.func203 Y Tryz.ntmps203 Y Tryz.call203 ?_
 intro a w M1 H hM1 S E
 replace h0 := h0.le hM1
 replace h1 := h1.le hM1
 refine Qs ?_
 refine Qk (QA (cs := #[v0]) E S Y Y (cells_one h0.1) ?_)
 clear E a S; rintro a w a5 E S
 obtain ⟨a6, a1, a2, S⟩ := S.freezeB
 replace h0 := h0.le a1
 replace h1 := h1.le a1
 refine Qk (QA (cs := #[v1]) E S Y Y (cells_one h1.1) ?_)
 clear E a S; rintro a w a7 E S
 obtain ⟨a3, a0, a4, S⟩ := S.freezeB
 replace h0 := h0.le a0
 replace h1 := h1.le a0
 replace a2 := a0.2 _ _ a2
 refine Qj E Y fun _ B => QI (Qv B Y Y fun _ C => Qj C Y ?_)
 clear E a B C; intro a E
 refine Jj ?_
 exact Qa E Tryz.results203 Y ⟨_, Y, a3, (a1.trans a0), (Jy (qQ (f2 := f1) h1 a2 h0 a4 (by (omega))) (by (rfl))), S⟩
theorem Ww {M : Hp} {v0 : Value} {l0 : List Int} (h0 : Qy M v0 l0){pk1 pn1 : Int} {w1 : Value} {pl1 : List Int} (hw1 : Qy M w1 pl1) (gn1 : -9223372036854775808 ≤ pn1 ∧ pn1 ≤ 9223372036854775807) (hb : l0.length ≤ 1000000000000) :
  Pu Tryz.prog (.func (.func 82) #[] #[]) M [v0, .agg #[.int .i64 pk1, .int .i64 pn1, w1]] (fun r M' => Qy M' r (VE (fun x => Jv pk1 pn1 pl1 x 0) l0)) := by
 refine Qd Tryz.func82 Y Tryz.ntmps82 Y Tryz.call82 ?_
 intro a w M1 H hM1 S E
 replace h0 := h0.le hM1
 replace hw1 := hw1.le hM1
 have b0 := h0.bound
 have hwl := GF (fun x => Jv pk1 pn1 pl1 x 0) l0
 refine Qs ?_
 refine Qk (QA (cs := #[.int .i64 pk1, .int .i64 pn1, w1]) E S Y Y Y ?_)
 clear E a S; rintro a w b1 E S
 obtain ⟨a4, a1, a5, S⟩ := S.freezeB
 replace h0 := h0.le a1
 replace hw1 := hw1.le a1
 refine Qj E Y ?_
 clear E a; intro a E
 refine ZJ ?_
 have hb_1k2 := a5
 replace S := S.mono_heap (w' := World.drew _) rfl
 refine Jb (C := fun x w => agree a4 w) (bf := (fun i => [])) [0, 2, 3, 6] [0, 2, 3, 1, 4, 5, 6] Tryz.mixed (by kernel_rfl) (fun x hq => S.imm) ?_
 refine QU E Y (fun w hC => (QL E Y)) fun _ B => QU B Y (fun w hC => (ZW B Y (Tryz.isAgg27 _) (Tryz.sizeOf27 _) hC hb_1k2)) fun _ D => QU D Y (fun w hC => (ZV D Y Y)) ?_
 clear E a B D; intro a E
 refine ZP Y Y Y (Qm E S Y Y Y (QG h0) lerf ?_)
 clear E a S; rintro a b2 w b3 a0 a6 S E
 replace hw1 := hw1.le a0
 refine ⟨fun x hq hb => (Qu a0 S.imm), ?_⟩
 refine ZP Y Y Y (Qm E S Y Y Y (VP a6 ⟨Y, fun zx1 => GJ (x1 := zx1) hw1 (by omega)⟩ (by (omega))) lerf ?_)
 clear E a S; rintro a b4 w b5 a2 a7 S E
 refine ⟨fun x hq hb => (Qu (a0.trans a2) S.imm), ?_⟩
 refine ZP Y Y Y (Qm E S Y Y Y (QJ a7 (by omega)) lerf ?_)
 clear E a S; rintro a b6 w a8 a3 a9 S E
 refine ⟨fun x hq hb => (Qu (a0.trans (a2.trans a3)) S.imm), ?_⟩
 refine QU E Y (fun w hC => (Jx E Y)) ?_
 clear E a; intro a E
 refine JI (JH ?_)
 refine JZ (QM ?_)
 exact Qa E Tryz.results82 Y ⟨_, Y, a8, (a1.trans (a0.trans (a2.trans a3))), a9, S⟩
theorem jt {M : Hp}  :
  Jh Tryz.prog (.func (.func 281) #[] #[]) M (QB) ([] : List Int) := by
 refine Jw Tryz.func281 Y Tryz.ntmps281 Y Tryz.call281 ?_
 intro y J X a w M1 c H hJM hM1 hY hJ S E
 refine J_x ?_
 replace S := S.front1.front1
 have hpre : [] = ([] : List Int) := by (rfl)
 rw [hpre] at hJ
 exact QR E S Tryz.results281 (fun w S => ⟨_, Y, M1, _, lerf, .inl hJ, S⟩)
theorem js {M : Hp} {v1 : Value} {l1 : List Int} {v2 : Value} {f2 : Int → Int → Bool} (h2 : jP Tryz.prog v2 M f2) {c3 : Int} (g3 : 0 < c3 ∧ c3 ≤ 1000000) (hb : l1.length ≤ 1000000000000) {bx1 bx2 bx3 : Nat} (hbx1 : M bx1 = some (.cells #[v1] 62)) (h1 : Jh Tryz.prog v1 M QB l1) (hbx2 : M bx2 = some (.cells #[v2] 37)) (hbx3 : M bx3 = some (.cells #[.int .i64 c3] 3)) :
  Jh Tryz.prog (.func (.func 282) #[] #[.pointer (some ⟨bx1, 0, none⟩), .pointer (some ⟨bx2, 0, none⟩), .pointer (some ⟨bx3, 0, none⟩)]) M (QB) ((QT f2 0 l1).take (c3 : Int).toNat) := by
 refine Jw Tryz.func282 Y Tryz.ntmps282 Y Tryz.call282 ?_
 intro y J X a w M1 c H hJM hM1 hY hJ S E
 replace hbx1 := hM1.2 _ _ hbx1
 replace hbx2 := hM1.2 _ _ hbx2
 replace hbx3 := hM1.2 _ _ hbx3
 replace h1 := h1.le hM1
 replace h2 := h2.le hM1
 refine Qs ?_
 refine Qk (QA (cs := #[y]) E S Y Y (cells_one hY.1) ?_)
 clear E a S; rintro a w b0 E S
 obtain ⟨b8, a0, a5, S⟩ := S.freezeB
 replace hbx1 := a0.2 _ _ hbx1
 replace hbx2 := a0.2 _ _ hbx2
 replace hbx3 := a0.2 _ _ hbx3
 replace h1 := h1.le a0
 replace h2 := h2.le a0
 replace hJ := hJM _ _ _ _ a0 hJ
 refine QI ?_
 refine Qk (Ja (cs := #[.int .i64 0]) E S Y Tryz.zeroValue3 Y ?_)
 clear E a S; rintro a w a2 E S
 refine QI ?_
 refine Qk (Ja (cs := #[.int .i64 0]) E S Y Tryz.zeroValue3 Y ?_)
 clear E a S; rintro a w a3 E S
 refine QI (Qb E Y Tryz.isAgg62 S.imm (Qf hbx1) ?_)
 clear E a; intro a E
 refine ZH ?_
 replace S := S.front3.front2.front2
 replace E := E.keep (l' := [(2, .pointer (some ⟨bx2, 0, none⟩)), (3, .pointer (some ⟨bx3, 0, none⟩)), (4, .pointer (some ⟨b0, 0, none⟩)), (5, .pointer (some ⟨a2, 0, none⟩)), (6, .pointer (some ⟨a3, 0, none⟩)), (8, v1)]) ⟨Y, Y, Y, Y, Y, Y, trivial⟩
 replace S := S.front2.front2
 replace S := S.blk_int (j := ((QT f2 0 (([] : List Int))).length : Int)) (by ((simp [QT]; done)))
 replace S := S.front2
 replace S := S.blk_int (j := ((([] : List Int)).length : Int)) (by ((simp; done)))
 have S0 := S; clear S; have S := St.pack [Jk a3 (.cells #[.int .i64 ((([] : List Int)).length : Int)] 3), Jk a2 (.cells #[.int .i64 ((QT f2 0 (([] : List Int))).length : Int)] 3), c] S0; clear S0
 refine JK (RV := QB) (l := l1) (fun pre M c => ∃ (c0 : Qr), c = Yf [Jk a3 (.cells #[.int .i64 ((pre).length : Int)] 3), Jk a2 (.cells #[.int .i64 ((QT f2 0 (pre)).length : Int)] 3), c0] ∧ (J (QT f2 0 (pre)) M c0) ∧ ((QT f2 0 (pre)).length < c3.toNat)) (fun cd pre M c => cd = .ret ∧ ((∃ z, z <+: ((QT f2 0 l1).take (c3 : Int).toNat) ∧ X z M c) ∨ J ((QT f2 0 l1).take (c3 : Int).toNat) M c)) E S Y h1 lerf (fun _ _ _ h => by rw [h]; rfl) (by decide) (by rintro _ M M' c hM ⟨c0, rfl, f0, f1⟩; exact ⟨_, rfl, hJM _ _ _ _ hM f0, f1⟩) ⟨_, rfl, Ju hJ (by (rfl)), (by (simp [QT]; omega))⟩ ?_ ?_ ?_
 clear E S
 ·rintro lb_6 rec_7 pre x _ a w b9 _ G a4 b1 rfl ⟨c0, rfl, f0, f1⟩ E S
  replace E : Env a 27 [] [(9, .int .i64 x), (2, .pointer (some ⟨bx2, 0, none⟩)), (3, .pointer (some ⟨bx3, 0, none⟩)), (4, .pointer (some ⟨b0, 0, none⟩)), (5, .pointer (some ⟨a2, 0, none⟩)), (6, .pointer (some ⟨a3, 0, none⟩)), (8, v1)] := E
  replace S := S.swap.unpack3
  have hq0 := Js b1
  replace hbx1 := a4.2 _ _ hbx1
  replace hbx2 := a4.2 _ _ hbx2
  replace hbx3 := a4.2 _ _ hbx3
  replace h2 := h2.le a4
  replace a5 := a4.2 _ _ a5
  have hpl := b1.length_le; simp at hpl; have wl := Zs f2 pre 0
  refine Qh (Qj E Y ?_)
  clear E a; intro a E
  refine Qz ?_
  replace S := S.front3
  refine rb S ?_
  clear S; intro w S
  refine QW (UK (Qb E Y Tryz.isAgg37 S.imm (Qf hbx2) fun _ B => Qn B Y fun _ C => QH C Y (Tryz.isAgg3 _) (Qo (S.mem (.tail _ (.head _)))) ?_))
  clear E a B C; intro a E
  refine Qk (Qm E S Y Y Y (h2.2 x ((pre).length : Int)) lerf ?_)
  clear E a S; rintro a _ w b4 a1 rfl S E
  replace hbx1 := a1.2 _ _ hbx1
  replace hbx3 := a1.2 _ _ hbx3
  replace a5 := a1.2 _ _ a5
  replace f0 := hJM _ _ _ _ a1 f0
  refine Qz ?_
  refine Jf E Y (fun b5 => ?_) (fun b5 => ?_)
  ·refine Je ?_
   refine Qh (QH E Y (Tryz.isAgg3 _) (Qo (S.mem (.tail _ (.tail _ (.head _))))) fun _ B => Qp (m := (((QT f2 0 (pre)).length + 1 : Nat) : Int)) B Y Y ?_)
   clear E a B; intro a E
   replace S := S.front2
   refine Jm (QS E S Y Y (Tryz.sizeOf3 _) Y ?_)
   clear E a S; rintro a w E S
   refine QI (Qb E Y Tryz.isAgg95 S.imm (Qf a5) fun _ B => Qn B Y ?_)
   clear E a B; intro a E
   replace S := S.front3
   refine Qk (JC (x := x) E S Y Y Y hY (a0.trans (a4.trans a1)) (by (exact Ua (YB (by assumption) (by assumption)) (by simp; omega))) Y f0 ?_)
   clear E a S; rintro a w a6 a9 go_14 a7 f0 S E
   replace hbx1 := a7.2 _ _ hbx1
   replace hbx3 := a7.2 _ _ hbx3
   cases go_14
   ·replace f0 : X (QT f2 0 (pre) ++ [x]) a6 a9 := f0
    refine Ji E Y fun _ B => Qn B Y fun _ C => Qe C Y Y Y Y fun _ D => Qe D Y Y Y Y fun _ F => Qe F Y Y Y Y fun _ I => JA I Y Y ?_
    clear E a B C D F I; intro a E
    refine Qz ?_
    refine QY E Y Y ?_
    refine QM (UA (ZC ?_))
    replace S := S.front1.drop.front2.drop.front1
    exact ⟨a6, _, (a1.trans a7), ⟨Y, .inl ⟨_, (by ((exact Ua (YB (by assumption) (by assumption)) (by simp; omega)))), f0⟩⟩, S⟩
   ·replace f0 : J (QT f2 0 (pre) ++ [x]) a6 a9 := f0
    refine Ji E Y fun _ B => Qn B Y fun _ C => Qc C Y Y (QH C Y (Tryz.isAgg3 _) (Qo (S.mem (.tail _ (.head _)))) fun _ D => Qc D Y Y (Qb D Y Tryz.isAgg3 S.imm (Qf hbx3) fun _ F => Qc F Y Y (Wc F Y Y fun _ I => JB I Y Y ?_)))
    clear E a B C D F I; intro a E
    refine Qz ?_
    refine Ql E Y (fun b6 => ?_) (fun b6 => ?_)
    ·refine QM (UA (ZC ?_))
     replace S := S.front1.drop.front2.drop.front1
     exact ⟨a6, _, (a1.trans a7), ⟨Y, .inr (Ju f0 (by (exact Ux (YB (by assumption) (by assumption)) (by simp; omega))))⟩, S⟩
    ·refine Qx (JZ (Qh (QH E Y (Tryz.isAgg3 _) (Qo (S.mem (.tail _ (.tail _ (.tail _ (.head _)))))) fun _ B => Qp (m := (((pre).length + 1 : Nat) : Int)) B Y Y ?_)))
     clear E a B; intro a E
     replace S := S.front3
     refine Jm (QS E S Y Y (Tryz.sizeOf3 _) Y ?_)
     clear E a S; rintro a w E S
     refine Jz (ZK ?_)
     replace S := S.front1.front2.front2.front2.front2
     replace S := S.blk_int (j := ((QT f2 0 ((pre ++ [x]))).length : Int)) (by ((rw [ZS]; simp [*]; done)))
     replace S := S.front2
     replace S := S.blk_int (j := (((pre ++ [x])).length : Int)) (by ((simp; done)))
     have S0 := S; clear S; have S := (St.pack [Jk a3 (.cells #[.int .i64 (((pre ++ [x])).length : Int)] 3), Jk a2 (.cells #[.int .i64 ((QT f2 0 ((pre ++ [x]))).length : Int)] 3), a9] S0).swap; clear S0
     exact ⟨a6, _, (a1.trans a7), ⟨_, Y, Ju f0 (by (rw [ZS]; simp [*])), (by (rw [ZS]; first | (simp [*]; done) | (simp [*]; omega) | (simp_all; omega)))⟩, S⟩
  ·refine Qx ?_
   refine JZ (Qh (QH E Y (Tryz.isAgg3 _) (Qo (S.mem (.tail _ (.head _)))) fun _ B => Qp (m := (((pre).length + 1 : Nat) : Int)) B Y Y ?_))
   clear E a B; intro a E
   replace S := S.front1
   refine Jm (QS E S Y Y (Tryz.sizeOf3 _) Y ?_)
   clear E a S; rintro a w E S
   refine Jz (ZK ?_)
   replace S := S.front3.front3.front2.front2.front2
   replace S := S.blk_int (j := ((QT f2 0 ((pre ++ [x]))).length : Int)) (by ((rw [ZS]; simp [*]; done)))
   replace S := S.front2
   replace S := S.blk_int (j := (((pre ++ [x])).length : Int)) (by ((simp; done)))
   have S0 := S; clear S; have S := (St.pack [Jk a3 (.cells #[.int .i64 (((pre ++ [x])).length : Int)] 3), Jk a2 (.cells #[.int .i64 ((QT f2 0 ((pre ++ [x]))).length : Int)] 3), c0] S0).swap; clear S0
   exact ⟨b4, _, a1, ⟨_, Y, Ju f0 (by (rw [ZS]; simp [*])), (by (rw [ZS]; first | (simp [*]; done) | (simp [*]; omega) | (simp_all; omega)))⟩, S⟩
 ·rintro a w b7 _ D_17 b2 ⟨c0, rfl, f0, f1⟩ S E
  replace S := S.unpack3
  replace hbx1 := b2.2 _ _ hbx1
  refine ZK (Yh ?_)
  replace S := S.drop.drop.front1
  have hpre : QT f2 0 (l1) = (QT f2 0 l1).take (c3 : Int).toNat := by (rw [List.take_of_length_le (by omega)])
  rw [hpre] at f0
  exact QR E S Tryz.results282 (fun w S => ⟨_, Y, b7, _, (a0.trans b2), .inl f0, S⟩)
 ·rintro a w b3 c_ D_19 c1 _ a8 c2 ⟨rfl, (⟨z_, hz_, f0⟩ | f0)⟩ S E
  ·replace hbx1 := a8.2 _ _ hbx1
   refine QM (ZC ?_)
   replace S := S.front1
   exact QR E S Tryz.results282 (fun w S => ⟨_, Y, b3, _, (a0.trans a8), .inr ⟨z_, (by assumption), f0⟩, S⟩)
  ·replace hbx1 := a8.2 _ _ hbx1
   refine QM (ZC ?_)
   replace S := S.front1
   exact QR E S Tryz.results282 (fun w S => ⟨_, Y, b3, _, (a0.trans a8), .inl f0, S⟩)
theorem yO {M : Hp} {v0 : Value} {l0 : List Int} (h0 : Jh Tryz.prog v0 M (QB) l0){v2 : Value} {f2 : Int → Int → Bool} (h2 : jP Tryz.prog v2 M f2){x1 : Int} (g1 : 0 ≤ x1 ∧ x1 ≤ 1000000)(hb : l0.length ≤ 1000000000000) :
  Pu Tryz.prog (.func (.func 205) #[] #[]) M [v0, .int .i64 x1, v2] (fun r M' => Jh Tryz.prog r M' QB ((QT f2 0 l0).take (x1 : Int).toNat)) := by
 refine Qd Tryz.func205 Y Tryz.ntmps205 Y Tryz.call205 ?_
 intro a w M1 H hM1 S E
 replace h0 := h0.le hM1
 replace h2 := h2.le hM1
 refine Qs ?_
 refine Qk (QA (cs := #[v0]) E S Y Y (cells_one h0.1) ?_)
 clear E a S; rintro a w a9 E S
 obtain ⟨b0, a4, a1, S⟩ := S.freezeB
 replace h0 := h0.le a4
 replace h2 := h2.le a4
 refine Qk (QA (cs := #[.int .i64 x1]) E S Y Y Y ?_)
 clear E a S; rintro a w b1 E S
 obtain ⟨b2, a2, a3, S⟩ := S.freezeB
 replace h0 := h0.le a2
 replace h2 := h2.le a2
 replace a1 := a2.2 _ _ a1
 refine Qk (QA (cs := #[v2]) E S Y Y (cells_one h2.1) ?_)
 clear E a S; rintro a w b3 E S
 obtain ⟨a5, a0, a6, S⟩ := S.freezeB
 replace h0 := h0.le a0
 replace h2 := h2.le a0
 replace a1 := a0.2 _ _ a1
 replace a3 := a0.2 _ _ a3
 refine Qj E Y fun _ B => Zp (Qb B Y Tryz.isAgg3 S.imm (Qf a3) fun _ C => Jc C Y Y ?_)
 clear E a B C; intro a E
 refine Qz ?_
 have a7 : (decide (x1 < 0)) = false := by (apply decide_eq_false; omega)
 refine QF E Y a7 ?_
 refine je (Qb E Y Tryz.isAgg3 S.imm (Qf a3) fun _ B => QK B Y Y ?_)
 clear E a B; intro a E
 refine Qz ?_
 refine Ql E Y (fun a8 => ?_) (fun a8 => ?_)
 ·refine Qs (Qj E Y ?_)
  clear E a; intro a E
  refine UJ ?_
  exact Qa E Tryz.results205 Y ⟨_, Y, a5, (a4.trans (a2.trans a0)), (Jy (jt ) (by (rw [show x1.toNat = 0 by omega]; simp))), S⟩
 ·refine VC (Qv E Y Y fun _ B => Qj B Y ?_)
  clear E a B; intro a E
  refine Jj ?_
  exact Qa E Tryz.results205 Y ⟨_, Y, a5, (a4.trans (a2.trans a0)), (Jy (js (f2 := f2) h2 (by omega) (by omega) a1 h0 a6 a3) (by (rfl))), S⟩
theorem GM {M : Hp} {v0 : Value} {l0 : List Int} (hb : l0.length ≤ 1000000000000) {c1 : Int} (g1 : 0 ≤ c1 ∧ c1 ≤ 1000000) {bx0 bx1 : Nat} (hbx0 : M bx0 = some (.cells #[v0] 22)) (h0 : Qy M v0 l0) (hbx1 : M bx1 = some (.cells #[.int .i64 c1] 3)) {pk2 pn2 : Int} {w2 : Value} {pl2 : List Int} (hw2 : Qy M w2 pl2) (gn2 : -9223372036854775808 ≤ pn2 ∧ pn2 ≤ 9223372036854775807) {bx2 : Nat} (hbx2 : M bx2 = some (.cells #[.int .i64 pk2, .int .i64 pn2, w2] 27)) :
  Pu Tryz.prog (.func (.func 204) #[] #[.pointer (some ⟨bx0, 0, none⟩), .pointer (some ⟨bx1, 0, none⟩), .pointer (some ⟨bx2, 0, none⟩)]) M [] (fun r M' => Qy M' r ((QT (Jv pk2 pn2 pl2) 0 l0).take (c1 : Int).toNat)) := by
 refine Qd Tryz.func204 Y Tryz.ntmps204 Y Tryz.call204 ?_
 intro a w M1 H hM1 S E
 replace hbx0 := hM1.2 _ _ hbx0
 replace hbx1 := hM1.2 _ _ hbx1
 replace h0 := h0.le hM1
 replace hbx2 := hM1.2 _ _ hbx2
 replace hw2 := hw2.le hM1
 have b0 := h0.bound
 have hfl := Zs (Jv pk2 pn2 pl2) l0 0
 refine Qs (Qj E Y ?_)
 clear E a; intro a E
 refine ZJ ?_
 have hbx0k0 := hbx0
 have hbx1k0 := hbx1
 have hbx2k0 := hbx2
 replace S := S.mono_heap (w' := World.drew _) rfl
 refine Jb (C := fun x w => agree M1 w) (bf := (fun i => [])) [0, 2, 3, 4, 7] [0, 2, 3, 4, 1, 5, 6, 7] Tryz.mixed (by kernel_rfl) (fun x hq => S.imm) ?_
 refine QU E Y (fun w hC => (QQ E Y Tryz.isAgg22 hC (Qf hbx0k0))) fun _ B => QU B Y (fun w hC => (QQ B Y Tryz.isAgg3 hC (Qf hbx1k0))) fun _ D => QU D Y (fun w hC => (ZW D Y (Tryz.isAgg27 _) (Tryz.sizeOf27 _) hC hbx2k0)) fun _ F => QU F Y (fun w hC => (ZV F Y Y)) ?_
 clear E a B D F; intro a E
 refine ZP Y Y Y (Qm E S Y Y Y (QG h0) lerf ?_)
 clear E a S; rintro a a7 w a8 a0 a3 S E
 replace hw2 := hw2.le a0
 refine ⟨fun x hq hb => (Qu a0 S.imm), ?_⟩
 refine ZP Y Y Y (Qm E S Y Y Y (yO a3 ⟨Y, fun zx1 zx2 => GK (x1 := zx1) (x2 := zx2) hw2 (by omega)⟩ (by omega) (by (omega))) lerf ?_)
 clear E a S; rintro a a9 w b1 a1 a4 S E
 refine ⟨fun x hq hb => (Qu (a0.trans a1) S.imm), ?_⟩
 refine ZP Y Y Y (Qm E S Y Y Y (QJ a4 (by (first | omega | (simp; omega) | (simp; done) | (simp_all; omega) | grind))) lerf ?_)
 clear E a S; rintro a b2 w a5 a2 a6 S E
 refine ⟨fun x hq hb => (Qu (a0.trans (a1.trans a2)) S.imm), ?_⟩
 refine QU E Y (fun w hC => (Jx E Y)) ?_
 clear E a; intro a E
 refine JI (JH ?_)
 refine JZ (QM ?_)
 exact Qa E Tryz.results204 Y ⟨_, Y, a5, (a0.trans (a1.trans a2)), a6, S⟩
theorem qf {M : Hp} {v0 : Value} {l0 : List Int} (h0 : Qy M v0 l0){x1 : Int} {pk2 pn2 : Int} {w2 : Value} {pl2 : List Int} (hw2 : Qy M w2 pl2) (gn2 : -9223372036854775808 ≤ pn2 ∧ pn2 ≤ 9223372036854775807) (hb : l0.length ≤ 1000000000000) (g1 : 0 ≤ x1 ∧ x1 ≤ 1000000) :
  Pu Tryz.prog (.func (.func 83) #[] #[]) M [v0, .int .i64 x1, .agg #[.int .i64 pk2, .int .i64 pn2, w2]] (fun r M' => ∃ t0, r = .tuple #[t0, .bool true] ∧ Qy M' t0 ((QT (Jv pk2 pn2 pl2) 0 l0).take (x1 : Int).toNat)) := by
 refine Qd Tryz.func83 Y Tryz.ntmps83 Y Tryz.call83 ?_
 intro a w M1 H hM1 S E
 replace h0 := h0.le hM1
 replace hw2 := hw2.le hM1
 have b0 := h0.bound
 refine Qs ?_
 refine Qk (QA (cs := #[v0]) E S Y Y (cells_one (QX.one' h0)) ?_)
 clear E a S; rintro a w a9 E S
 obtain ⟨b1, a3, a0, S⟩ := S.freezeB
 replace h0 := h0.le a3
 replace hw2 := hw2.le a3
 refine Qk (QA (cs := #[.int .i64 x1]) E S Y Y Y ?_)
 clear E a S; rintro a w b2 E S
 obtain ⟨b3, a2, a4, S⟩ := S.freezeB
 replace h0 := h0.le a2
 replace hw2 := hw2.le a2
 replace a0 := a2.2 _ _ a0
 refine Qk (QA (cs := #[.int .i64 pk2, .int .i64 pn2, w2]) E S Y Y Y ?_)
 clear E a S; rintro a w b4 E S
 obtain ⟨b5, a1, a5, S⟩ := S.freezeB
 replace h0 := h0.le a1
 replace hw2 := hw2.le a1
 replace a0 := a1.2 _ _ a0
 replace a4 := a1.2 _ _ a4
 refine QD 2 E Y fun _ B => QI (Qv B Y Y ?_)
 clear E a B; intro a E
 refine Qk (Qm E S Y Y Y (Yy ⟨Y, GM  (by omega) (by omega) a0 h0 a4 hw2 (by omega) a5⟩) lerf ?_)
 clear E a S; rintro a _ w a6 a7 ⟨b6, rfl, a8⟩ S E
 refine Qg E Y Y fun _ B => Qg B Y Y fun _ C => QD 2 C Y ?_
 clear E a B C; intro a E
 refine Jj ?_
 exact Zr E Tryz.results83 Y Y ⟨_, Y, a6, (a3.trans (a2.trans (a1.trans a7))), ⟨_, (by rfl), (QX.eqL a8 (by (rfl)))⟩, S⟩
theorem zF {M : Hp} {m0 : Value} {q0 : List Int} (hm0 : ye M m0 (Sl.encS q0)){x1 : Int} :
  Pu Tryz.prog (.func (.func 284) #[] #[]) M [m0, .int .i64 x1] (fun r M' => r = .bool (decide (x1 ∈ q0))) := by
 refine Qd Tryz.func284 Y Tryz.ntmps284 Y Tryz.call284 ?_
 intro a w M1 H hM1 S E
 replace hm0 := hm0.le hM1
 refine Qs (Qj E Y fun _ B => QI (QD 2 B Y fun _ C => qm S.imm hm0 C Yp Y Y fun _ D => Qn D Y fun _ F => Qg F Y Y fun _ G => Qg G Y Y ?_))
 clear E a B C D F G; intro a E
 refine Qk (Ja (cs := #[]) E S Y Tryz.zeroValue117 Y ?_)
 clear E a S; rintro a w a0 E S
 refine Jm (Zv (us := []) E S Y Y (Tryz.sizeOf117 _) Y (by intro u hu; cases hu) ?_)
 clear E a S; rintro a w E S
 replace S : St w M1 (Jk a0 (.cells #[] 117) :: _) := S
 have S0 := S; clear S
 obtain ⟨a1, a2, a3, S⟩ := S0.freezeB
 clear S0
 refine Qj E Y fun _ B => QI (QD 2 B Y ?_)
 clear E a B; intro a E
 refine Jj ?_
 exact Qa E Tryz.results284 Y ⟨_, Y, a1, a2, Y, S⟩
theorem yL {M : Hp} {m8 : Value} {q8 : List Int} (hm8 : ye M m8 (Sl.encS q8)) {x0 x1 : Int} {bx8 : Nat} (hbx8 : M bx8 = some (.cells #[m8] 116)) :
  Pu Tryz.prog (.func (.func 283) #[] #[.pointer (some ⟨bx8, 0, none⟩)]) M [.int .i64 x0, .int .i64 x1] (fun r M' => r = .bool (decide (x1 ∈ q8))) := by
 refine Qd Tryz.func283 Y Tryz.ntmps283 Y Tryz.call283 ?_
 intro a w M1 H hM1 S E
 replace hm8 := hm8.le hM1
 replace hbx8 := hM1.2 _ _ hbx8
 refine Qs (Qj E Y fun _ B => QI (Qb B Y Tryz.isAgg116 S.imm (Qf hbx8) fun _ C => Qn C Y ?_))
 clear E a B C; intro a E
 refine Qk (Qm E S Y Y Y (zF hm8) lerf ?_)
 clear E a S; rintro a _ w a0 a1 rfl S E
 refine Qj E Y ?_
 clear E a; intro a E
 refine Jj ?_
 exact Qa E Tryz.results283 Y ⟨_, Y, a0, a1, Y, S⟩
theorem vY {M : Hp} {v0 : Value} {l0 : List Int} (h0 : Jh Tryz.prog v0 M (QB) l0) {v1 : Value} {l1 : List Int} (h1 : Qy M v1 l1) (hb : l0.length ≤ 1000000000000) :
  Pu Tryz.prog (.func (.func 206) #[] #[]) M [v0, v1] (fun r M' => Jh Tryz.prog r M' QB (VG l0 l1)) := by
 refine Qd Tryz.func206 Y Tryz.ntmps206 Y Tryz.call206 ?_
 intro a w M1 H hM1 S E
 replace h0 := h0.le hM1
 replace h1 := h1.le hM1
 have b1 := h1.bound
 refine Qs (Qj E Y fun _ B => QI (Qn B Y ?_))
 clear E a B; intro a E
 refine Qk (VF (p := []) E S Y Y Y (ZE h1) lerf ?_)
 clear E a S; rintro a _ w a4 _ a2 ⟨a5, rfl, rfl⟩ S E
 replace S : St w a4 (Zg a5 (Qw l1) :: _) := S
 replace h0 := h0.le a2
 refine Qk (Ja (cs := #[.map none]) E S Y Tryz.zeroValue116 Y ?_)
 clear E a S; rintro a w b0 E S
 refine Jm (QS E S Y Y (Tryz.sizeOf116 _) Y ?_)
 clear E a S; rintro a w E S
 refine QI (Qn E Y ?_)
 clear E a; intro a E
 replace S := S.front1
 have S0 := S; clear S
 obtain ⟨b2, a3, a0, S⟩ := S0.freezeM
 clear S0
 replace h0 := h0.le a3
 have S0 := S; clear S
 obtain ⟨b3, a1, a6, S⟩ := S0.freezeB
 clear S0
 replace h0 := h0.le a1
 replace a0 := a0.le a1
 refine Qv E Y Y ?_
 clear E a; intro a E
 refine Qk (Qm E S Y Y Y (GZ h0 ⟨Y, fun zx0 zx1 => yL (x0 := zx0) (x1 := zx1) a0 a6⟩ (by (omega))) lerf ?_)
 clear E a S; rintro a b4 w a7 a8 a9 S E
 refine Qj E Y ?_
 clear E a; intro a E
 refine Jj ?_
 exact Qa E Tryz.results206 Y ⟨_, Y, a7, (a2.trans (a3.trans (a1.trans a8))), (Jy a9 (by (unfold VG; simp only [Yd]))), S⟩
theorem qb {M : Hp} {v0 v1 : Value} {l0 l1 : List Int} (h0 : Qy M v0 l0) (h1 : Qy M v1 l1) (hb : l0.length ≤ 1000000000000) :
  Pu Tryz.prog (.func (.func 84) #[] #[]) M [v0, v1] (fun r M' => Qy M' r (VG l0 l1)) := by
 refine Qd Tryz.func84 Y Tryz.ntmps84 Y Tryz.call84 ?_
 intro a w M1 H hM1 S E
 replace h0 := h0.le hM1
 replace h1 := h1.le hM1
 have b0 := h0.bound
 have b1 := h1.bound
 have hwl := wnth_len l0 l1
 refine Qs (Qj E Y fun _ B => QI (Qn B Y ?_))
 clear E a B; intro a E
 refine Qk (Qm E S Y Y Y (QG h0) lerf ?_)
 clear E a S; rintro a a7 w a8 a0 a1 S E
 replace h1 := h1.le a0
 refine Qn E Y ?_
 clear E a; intro a E
 refine Qk (Qm E S Y Y Y (vY a1 h1 (by (omega))) lerf ?_)
 clear E a S; rintro a a9 w b2 a2 a3 S E
 refine Qk (Qm E S Y Y Y (QJ a3 (by omega)) lerf ?_)
 clear E a S; rintro a b3 w a4 a5 a6 S E
 refine Qj E Y ?_
 clear E a; intro a E
 refine Jj ?_
 exact Qa E Tryz.results84 Y ⟨_, Y, a4, (a0.trans (a2.trans a5)), a6, S⟩
theorem it_MapI1_st {M : Hp} {v0 : Value} {l0 : List Int} (h0 : Jh Tryz.prog v0 M (QB) l0) {v1 : Value} {C1 : Int → Qr} {f1 : Int → Int → Int} {g1 : Int → Int → Int} (h1 : StF2I Tryz.prog v1 M C1 f1 g1) {s9 : Int} (hb : l0.length ≤ 1000000000000) {bx8 bx9 : Nat} (hbx8 : M bx8 = some (.cells #[v0] 62)) (hbx9 : M bx9 = some (.cells #[v1] 40)) :
  SeqO Tryz.prog (.func (.func 268) #[] #[.pointer (some ⟨bx8, 0, none⟩), .pointer (some ⟨bx9, 0, none⟩)]) M (QB) (Zn f1 g1 s9 l0) (C1 s9) := by
 refine SeqO_enter Tryz.func268 Y Tryz.ntmps268 Y Tryz.call268 ?_
 intro y J X a w M1 c H hJM hM1 hY hJ S E
 replace h0 := h0.le hM1
 replace h1 := h1.le hM1
 replace hbx8 := hM1.2 _ _ hbx8
 replace hbx9 := hM1.2 _ _ hbx9
 refine Qs ?_
 refine Qk (QA (cs := #[y]) E S Y Y (cells_one hY.1) ?_)
 clear E a S; rintro a w a8 E S
 obtain ⟨b5, a0, a5, S⟩ := S.freezeB
 replace h0 := h0.le a0
 replace h1 := h1.le a0
 replace hbx8 := a0.2 _ _ hbx8
 replace hbx9 := a0.2 _ _ hbx9
 replace hJ := hJM _ _ _ _ a0 hJ
 refine QI ?_
 refine Qk (Ja (cs := #[.int .i64 0]) E S Y Tryz.zeroValue3 Y ?_)
 clear E a S; rintro a w a1 E S
 refine QI (Qb E Y Tryz.isAgg62 S.imm (Qf hbx8) ?_)
 clear E a; intro a E
 refine ZH ?_
 replace S := S.front3.front3.front2
 replace E := E.keep (l' := [(2, .pointer (some ⟨bx9, 0, none⟩)), (3, .pointer (some ⟨a8, 0, none⟩)), (4, .pointer (some ⟨a1, 0, none⟩)), (6, v0)]) ⟨Y, Y, Y, Y, trivial⟩
 replace S := S.front2.front2
 replace S := S.reSt (C := C1) (s' := YF g1 s9 (([] : List Int))) (by (rfl))
 replace S := S.front2
 replace S := S.blk_int (j := ((([] : List Int)).length : Int)) (by ((simp; done)))
 have S0 := S; clear S; have S := St.pack [Jk a1 (.cells #[.int .i64 ((([] : List Int)).length : Int)] 3), C1 (YF g1 s9 (([] : List Int))), c] S0; clear S0
 refine JK (RV := QB) (l := l0) (fun pre M c => ∃ (c0 : Qr), c = Yf [Jk a1 (.cells #[.int .i64 ((pre).length : Int)] 3), C1 (YF g1 s9 (pre)), c0] ∧ (J (Zn f1 g1 s9 (pre)) M c0)) (fun cd pre M c => cd = .ret ∧ ∃ z, z <+: (Zn f1 g1 s9 l0) ∧ X z M c) E S Y h0 lerf (fun _ _ _ h => by rw [h]; rfl) (by decide) (by rintro _ M M' c hM ⟨c0, rfl, f0⟩; exact ⟨_, rfl, hJM _ _ _ _ hM f0⟩) ⟨_, rfl, Ju hJ (by (rfl))⟩ ?_ ?_ ?_
 clear E S
 ·rintro lb_5 rec_6 pre x _ a w a9 _ G a3 b0 rfl ⟨c0, rfl, f0⟩ E S
  replace E : Env a 17 [] [(7, .int .i64 x), (2, .pointer (some ⟨bx9, 0, none⟩)), (3, .pointer (some ⟨a8, 0, none⟩)), (4, .pointer (some ⟨a1, 0, none⟩)), (6, v0)] := E
  replace S := S.swap.unpack3
  have hq0 := Js b0
  replace h1 := h1.le a3
  replace hbx9 := a3.2 _ _ hbx9
  replace a5 := a3.2 _ _ a5
  refine Qh (Qj E Y ?_)
  clear E a; intro a E
  refine Qz ?_
  replace S := S.front3
  refine rb S ?_
  clear S; intro w S
  refine QW (Je (Je ?_))
  have hbx9k8 := hbx9
  have hb_1k8 := a5
  replace S := S.mono_heap (w' := World.drew _) rfl
  refine Jb (C := fun x w => agree a9 w ∧ (x = 3 → w.heap[a1]? = some (.cells #[.int .i64 ((pre).length : Int)] 3))) (bf := (fun i => bif Nat.beq i 4 then [3] else bif Nat.beq i 5 then [3] else [])) [0, 1, 2, 3, 6] [0, 1, 2, 3, 4, 5, 6] Tryz.mixed (by kernel_rfl) (fun x hq => ⟨S.imm, fun _ => (S.mem (.tail _ (.head _)))⟩) ?_
  refine QU E Y (fun w hC => (QQ E Y Tryz.isAgg95 hC.1 (Qf hb_1k8))) fun _ B => QU B Y (fun w hC => (QQ B Y Tryz.isAgg40 hC.1 (Qf hbx9k8))) fun _ D => QU D Y (fun w hC => (QL D Y)) fun _ F => QU F Y (fun w hC => (ZF F Y (Tryz.isAgg3 _) (Qo (hC.2 Y)))) ?_
  clear E a B D F; intro a E
  replace S := S.front2
  refine ZP Y Y Y (X_st E S Y Y Y (h1.2 (YF g1 s9 (pre)) x ((pre).length : Int)) lerf ?_)
  clear E a S; rintro a w b6 a2 S E
  replace f0 := hJM _ _ _ _ a2 f0
  refine ⟨fun x hq hb => ⟨(Qu a2 S.imm), (fun e => by subst e; exact absurd hb (by decide))⟩, ?_⟩
  replace S := S.front3
  refine ZP Y Y Y (JC (x := f1 (YF g1 s9 (pre)) x) E S Y Y Y hY (a0.trans (a3.trans a2)) (by exact mapS_pre1 (by assumption)) Y f0 ?_)
  clear E a S; rintro a w a4 a6 go_12 a7 f0 S E
  refine ⟨fun x hq hb => ⟨(Qu (a2.trans a7) S.imm), (fun e => by subst e; exact absurd hb (by decide))⟩, ?_⟩
  cases go_12
  ·replace f0 : X (Zn f1 g1 s9 (pre) ++ [f1 (YF g1 s9 (pre)) x]) a4 a6 := f0
   refine QU E Y (fun w hC => (YN E Y)) ?_
   clear E a; intro a E
   refine JI (JH ?_)
   refine JZ ?_
   refine QY E Y Y ?_
   refine QM (UA (ZC ?_))
   replace S := S.front1.drop.front2.drop.front1
   exact ⟨a4, _, (a2.trans a7), ⟨Y, _, (by (exact mapS_pre1 (by assumption))), f0⟩, S⟩
  ·replace f0 : J (Zn f1 g1 s9 (pre) ++ [f1 (YF g1 s9 (pre)) x]) a4 a6 := f0
   refine QU E Y (fun w hC => (YN E Y)) ?_
   clear E a; intro a E
   refine JI (JH ?_)
   refine JZ ?_
   refine QF E Y Y ?_
   refine Qx (JZ (Qh (QH E Y (Tryz.isAgg3 _) (Qo (S.mem (.tail _ (.tail _ (.tail _ (.head _)))))) fun _ B => Qp (m := (((pre).length + 1 : Nat) : Int)) B Y Y ?_)))
   clear E a B; intro a E
   replace S := S.front3
   refine Jm (QS E S Y Y (Tryz.sizeOf3 _) Y ?_)
   clear E a S; rintro a w E S
   refine Jz (ZK ?_)
   replace S := S.front1.front2.front2.front2.front2
   replace S := S.reSt (C := C1) (s' := YF g1 s9 ((pre ++ [x]))) (by ((rw [zU]; done)))
   replace S := S.front2
   replace S := S.blk_int (j := (((pre ++ [x])).length : Int)) (by ((simp; done)))
   have S0 := S; clear S; have S := (St.pack [Jk a1 (.cells #[.int .i64 (((pre ++ [x])).length : Int)] 3), C1 (YF g1 s9 ((pre ++ [x]))), a6] S0).swap; clear S0
   exact ⟨a4, _, (a2.trans a7), ⟨_, Y, Ju f0 (by (rw [Ut]))⟩, S⟩
 ·rintro a w b1 _ D_14 b2 ⟨c0, rfl, f0⟩ S E
  replace S := S.unpack3
  refine ZK (Yh ?_)
  replace S := S.drop.drop.front1
  have hpre : Zn f1 g1 s9 (l0) = Zn f1 g1 s9 l0 := by (rfl)
  rw [hpre] at f0
  exact QR E S Tryz.results268 (fun w S => ⟨_, Y, b1, _, (a0.trans b2), .inl f0, S⟩)
 ·rintro a w b3 c_ D_16 b7 _ b4 b8 ⟨rfl, z_, hz_, f0⟩ S E
  refine QM (ZC ?_)
  replace S := S.front1
  exact QR E S Tryz.results268 (fun w S => ⟨_, Y, b3, _, (a0.trans b4), .inr ⟨z_, (by assumption), f0⟩, S⟩)
theorem it_MapI_st {M : Hp} {v0 : Value} {l0 : List Int} (h0 : Jh Tryz.prog v0 M (QB) l0) {v1 : Value} {C1 : Int → Qr} {f1 : Int → Int → Int} {g1 : Int → Int → Int} (h1 : StF2I Tryz.prog v1 M C1 f1 g1) (hb : l0.length ≤ 1000000000000) :
  Pu Tryz.prog (.func (.func 187) #[] #[]) M [v0, v1] (fun r M' => SeqF Tryz.prog r M' (fun s_ => Zn f1 g1 s_ l0) C1) := by
 refine Qd Tryz.func187 Y Tryz.ntmps187 Y Tryz.call187 ?_
 intro a w M1 H hM1 S E
 replace h0 := h0.le hM1
 replace h1 := h1.le hM1
 refine Qs ?_
 refine Qk (QA (cs := #[v0]) E S Y Y (cells_one h0.1) ?_)
 clear E a S; rintro a w a5 E S
 obtain ⟨a6, a1, a2, S⟩ := S.freezeB
 replace h0 := h0.le a1
 replace h1 := h1.le a1
 refine Qk (QA (cs := #[v1]) E S Y Y (cells_one h1.1) ?_)
 clear E a S; rintro a w a7 E S
 obtain ⟨a3, a0, a4, S⟩ := S.freezeB
 replace h0 := h0.le a0
 replace h1 := h1.le a0
 replace a2 := a0.2 _ _ a2
 refine Qj E Y fun _ B => QI (Qv B Y Y fun _ C => Qj C Y ?_)
 clear E a B C; intro a E
 refine Jj ?_
 exact Qa E Tryz.results187 Y ⟨_, Y, a3, (a1.trans a0), (fun s_ => it_MapI1_st (s9 := s_)  (C1 := C1) (f1 := f1) (g1 := g1) h0 h1 (by (omega)) a2 a4), S⟩
theorem it_Map1_st {M : Hp} {v5 : Value} {C5 : Int → Qr} {f5 : Int → Int → Int} {g5 : Int → Int → Int} (h5 : StF1I Tryz.prog v5 M C5 f5 g5) {x0 x1 s9 : Int} {bx8 : Nat} (hbx8 : M bx8 = some (.cells #[v5] 90)) :
  Sp Tryz.prog (.func (.func 320) #[] #[.pointer (some ⟨bx8, 0, none⟩)]) M [.int .i64 x0, .int .i64 x1] [C5 s9] (fun r M' C' => r = .int .i64 (f5 s9 x0) ∧ C' = [C5 (g5 s9 x0)]) := by
 refine UB Tryz.func320 Y Tryz.ntmps320 Y Tryz.call320 ?_
 intro a w M1 H hM1 S E
 replace S : St w M1 (C5 s9 :: _) := S
 replace h5 := h5.le hM1
 replace hbx8 := hM1.2 _ _ hbx8
 refine Qs (Qj E Y fun _ B => QI (Qb B Y Tryz.isAgg90 S.imm (Qf hbx8) fun _ D => Qn D Y ?_))
 clear E a B D; intro a E
 refine Qk (X_st E S Y Y Y (h5.2 s9 x0) lerf ?_)
 clear E a S; rintro a w a0 a1 S E
 refine Qj E Y ?_
 clear E a; intro a E
 refine Jj ?_
 replace S : St w a0 (C5 (g5 s9 x0) :: _) := S
 replace S := S.reSt (C := C5) (s' := g5 s9 x0) (by rfl)
 exact Qa E Tryz.results320 Y ⟨_, Y, a0, _, a1, ⟨Y, Y⟩, S⟩
theorem it_Map_st {M : Hp} {v0 : Value} {l0 : List Int} (h0 : Jh Tryz.prog v0 M (QB) l0) {v1 : Value} {C1 : Int → Qr} {f1 : Int → Int → Int} {g1 : Int → Int → Int} (h1 : StF1I Tryz.prog v1 M C1 f1 g1) (hb : l0.length ≤ 1000000000000) :
  Pu Tryz.prog (.func (.func 286) #[] #[]) M [v0, v1] (fun r M' => SeqF Tryz.prog r M' (fun s_ => Zn f1 g1 s_ l0) C1) := by
 refine Qd Tryz.func286 Y Tryz.ntmps286 Y Tryz.call286 ?_
 intro a w M1 H hM1 S E
 replace h0 := h0.le hM1
 replace h1 := h1.le hM1
 refine Qs ?_
 refine Qk (QA (cs := #[v1]) E S Y Y (cells_one h1.1) ?_)
 clear E a S; rintro a w a5 E S
 obtain ⟨a6, a0, a1, S⟩ := S.freezeB
 replace h0 := h0.le a0
 replace h1 := h1.le a0
 refine Qj E Y fun _ B => QI (Qn B Y fun _ C => Qv C Y Y ?_)
 clear E a B C; intro a E
 refine Qk (Qm E S Y Y Y (it_MapI_st h0 (C1 := C1) (f1 := f1) (g1 := g1) ⟨Y, fun s_ zx0 zx1 => it_Map1_st (s9 := s_) (x0 := zx0) (x1 := zx1) (C5 := C1) (f5 := f1) (g5 := g1) h1 a1⟩ (by (omega))) lerf ?_)
 clear E a S; rintro a a7 w a2 a3 a4 S E
 refine Qj E Y ?_
 clear E a; intro a E
 refine Jj ?_
 exact Qa E Tryz.results286 Y ⟨_, Y, a2, (a0.trans a3), a4, S⟩
theorem it_Replace11 {M : Hp} {x0 s9 : Int} {b9 : Nat} {bx1 : Nat} {x1 : Int} (hbx1 : M bx1 = some (.cells #[.int .i64 x1] 3)) {bx2 : Nat} {x2 : Int} (hbx2 : M bx2 = some (.cells #[.int .i64 x2] 3)) :
  Sp Tryz.prog (.func (.func 287) #[] #[.pointer (some ⟨b9, 0, none⟩), .pointer (some ⟨bx1, 0, none⟩), .pointer (some ⟨bx2, 0, none⟩)]) M [.int .i64 x0] [cellI b9 3 s9] (fun r M' C' => r = .int .i64 (ZD x1 x2 s9 x0) ∧ C' = [(cellI b9 3) (Zi x1 s9 x0)]) := by
 refine UB Tryz.func287 Y Tryz.ntmps287 Y Tryz.call287 ?_
 intro a w M1 H hM1 S E
 replace S : St w M1 (Jk b9 (.cells #[.int .i64 s9] 3) :: _) := S
 replace hbx1 := hM1.2 _ _ hbx1
 replace hbx2 := hM1.2 _ _ hbx2
 refine Qs (Qj E Y fun _ B => Zp (QH B Y (Tryz.isAgg3 _) (Qo (S.mem (.head _))) fun _ D => Wb D Y Y fun _ F => Qn F Y ?_))
 clear E a B D F; intro a E
 refine Jo (decide (s9 ≠ 0)) (fun a0 => ?_) (fun a0 => ?_)
 ·replace E := E.val (t := 7) Y a0
  replace E := E.val (t := 8) Y a0
  replace a0 := of_decide_eq_true a0
  refine Qc E Y Y (Qn E Y fun _ B => Qc B Y Y (Qb B Y Tryz.isAgg3 S.imm (Qf hbx1) fun _ D => Qc D Y Y (QK D Y Y fun _ F => JA F Y Y ?_)))
  clear E a B D F; intro a E
  refine Qz ?_
  refine Ql E Y (fun a1 => ?_) (fun a1 => ?_)
  ·refine Qs (QH E Y (Tryz.isAgg3 _) (Qo (S.mem (.head _))) fun _ B => e_sub B Y Y ?_)
   clear E a B; intro a E
   refine Jm (QS E S Y Y (Tryz.sizeOf3 _) Y ?_)
   clear E a S; rintro a w E S
   refine QI (Qb E Y Tryz.isAgg3 S.imm (Qf hbx2) fun _ B => Qj B Y ?_)
   clear E a B; intro a E
   refine UJ ?_
   replace S : St w M1 ((cellI b9 3) (IntKind.i64.wrap (s9 - 1)) :: _) := S
   replace S := S.reSt (C := (cellI b9 3)) (s' := Zi x1 s9 x0) (by ((simp_all [ZD, Zi, w64]; done)))
   exact Qa E Tryz.results287 Y ⟨_, Y, M1, _, lerf, ⟨(congrArg (Value.int .i64) (show x2 = ZD x1 x2 s9 x0 by ((simp_all [ZD, Zi, w64]; done)))), rfl⟩, S⟩
  ·refine VC (QD 2 E Y ?_)
   clear E a; intro a E
   refine Jj ?_
   replace S : St w M1 ((cellI b9 3) s9 :: _) := S
   replace S := S.reSt (C := (cellI b9 3)) (s' := Zi x1 s9 x0) (by ((simp_all [ZD, Zi, w64]; done)))
   exact Qa E Tryz.results287 Y ⟨_, Y, M1, _, lerf, ⟨(congrArg (Value.int .i64) (show x0 = ZD x1 x2 s9 x0 by ((simp_all [ZD, Zi, w64]; done)))), rfl⟩, S⟩
 ·replace E := E.val (t := 7) Y a0
  replace E := E.val (t := 8) Y a0
  replace a0 := of_decide_eq_false a0
  refine Qe E Y Y Y Y fun _ B => Qe B Y Y Y Y fun _ D => Qe D Y Y Y Y fun _ F => JB F Y Y ?_
  clear E a B D F; intro a E
  refine Qz ?_
  refine QF E Y Y ?_
  refine VC (QD 2 E Y ?_)
  clear E a; intro a E
  refine Jj ?_
  replace S : St w M1 ((cellI b9 3) s9 :: _) := S
  replace S := S.reSt (C := (cellI b9 3)) (s' := Zi x1 s9 x0) (by ((simp_all [ZD, Zi, w64]; done)))
  exact Qa E Tryz.results287 Y ⟨_, Y, M1, _, lerf, ⟨(congrArg (Value.int .i64) (show x0 = ZD x1 x2 s9 x0 by ((simp_all [ZD, Zi, w64]; done)))), rfl⟩, S⟩
theorem it_Replace1 {M : Hp} {v0 : Value} {l0 : List Int} (h0 : Jh Tryz.prog v0 M (QB) l0) (hb : l0.length ≤ 1000000000000) {bx1 : Nat} {x1 : Int} (hbx1 : M bx1 = some (.cells #[.int .i64 x1] 3)) {bx3 : Nat} {x3 : Int} (hbx3 : M bx3 = some (.cells #[.int .i64 x3] 3)) {bx4 : Nat} {x4 : Int} (hbx4 : M bx4 = some (.cells #[.int .i64 x4] 3)) {bx2 : Nat} (hbx2 : M bx2 = some (.cells #[v0] 62)) :
  Jh Tryz.prog (.func (.func 285) #[] #[.pointer (some ⟨bx1, 0, none⟩), .pointer (some ⟨bx2, 0, none⟩), .pointer (some ⟨bx3, 0, none⟩), .pointer (some ⟨bx4, 0, none⟩)]) M (QB) (Zn (ZD x3 x4) (Zi x3) x1 l0) := by
 refine Jw Tryz.func285 Y Tryz.ntmps285 Y Tryz.call285 ?_
 intro y J X a w M1 c H hJM hM1 hY hJ S E
 replace h0 := h0.le hM1
 replace hbx1 := hM1.2 _ _ hbx1
 replace hbx2 := hM1.2 _ _ hbx2
 replace hbx3 := hM1.2 _ _ hbx3
 replace hbx4 := hM1.2 _ _ hbx4
 refine Qs (Qb E Y Tryz.isAgg3 S.imm (Qf hbx1) ?_)
 clear E a; intro a E
 refine Qk (Ja (cs := #[.int .i64 0]) E S Y Tryz.zeroValue3 Y ?_)
 clear E a S; rintro a w a2 E S
 refine Jm (QS E S Y Y (Tryz.sizeOf3 _) Y ?_)
 clear E a S; rintro a w E S
 refine zw (Qb E Y Tryz.isAgg62 S.imm (Qf hbx2) fun _ B => Qv B Y Y ?_)
 clear E a B; intro a E
 replace S : St w M1 ((cellI a2 3) x1 :: _) := S
 refine Qk (Qm E S Y Y Y (it_Map_st h0 (C1 := (cellI a2 3)) (f1 := (ZD x3 x4)) (g1 := (Zi x3)) ⟨Y, fun s_ zx0 => it_Replace11 (s9 := s_) (b9 := a2) (x0 := zx0) (x1 := x3) (x2 := x4) hbx3 hbx4⟩ (by (omega))) lerf ?_)
 clear E a S; rintro a a6 w a7 a1 a5 S E
 replace hJ := hJM _ _ _ _ a1 hJ
 refine Qn E Y ?_
 clear E a; intro a E
 replace S := S.front2.front1
 refine Qk (X_seqO (xs := Zn (ZD x3 x4) (Zi x3) x1 l0) E S Y Y Y (show SeqO _ _ _ _ (Zn (ZD x3 x4) (Zi x3) x1 l0) _ from (show Zn (ZD x3 x4) (Zi x3) x1 l0 = Zn (ZD x3 x4) (Zi x3) x1 l0 by rfl) ▸ (a5 x1)) lerf hJM hY a1 hJ ?_)
 clear E a S; rintro a a8 w a3 a9 a4 a0 S E
 rcases a0 with a0 | ⟨z_, hz_, a0⟩
 ·skip
  refine J_Ab ?_
  replace S := S.front1
  exact QR E S Tryz.results285 (fun w S => ⟨_, Y, a3, _, (a1.trans a4), .inl a0, S⟩)
 ·skip
  refine J_Ab ?_
  replace S := S.front1
  exact QR E S Tryz.results285 (fun w S => ⟨_, Y, a3, _, (a1.trans a4), .inr ⟨z_, (by assumption), a0⟩, S⟩)
theorem yQ {M : Hp} {v0 : Value} {l0 : List Int} (h0 : Jh Tryz.prog v0 M (QB) l0){x1 x2 x3 : Int}  (hb : l0.length ≤ 1000000000000) :
  Pu Tryz.prog (.func (.func 207) #[] #[]) M [v0, .int .i64 x1, .int .i64 x2, .int .i64 x3] (fun r M' => Jh Tryz.prog r M' QB (Zn (ZD x1 x2) (Zi x1) x3 l0)) := by
 refine Qd Tryz.func207 Y Tryz.ntmps207 Y Tryz.call207 ?_
 intro a w M1 H hM1 S E
 replace h0 := h0.le hM1
 refine Qs ?_
 refine Qk (QA (cs := #[v0]) E S Y Y (cells_one h0.1) ?_)
 clear E a S; rintro a w a9 E S
 obtain ⟨b0, a6, a0, S⟩ := S.freezeB
 replace h0 := h0.le a6
 refine Qk (QA (cs := #[.int .i64 x1]) E S Y Y Y ?_)
 clear E a S; rintro a w b1 E S
 obtain ⟨b2, a4, a1, S⟩ := S.freezeB
 replace h0 := h0.le a4
 replace a0 := a4.2 _ _ a0
 refine Qk (QA (cs := #[.int .i64 x2]) E S Y Y Y ?_)
 clear E a S; rintro a w b3 E S
 obtain ⟨b4, a3, a5, S⟩ := S.freezeB
 replace h0 := h0.le a3
 replace a0 := a3.2 _ _ a0
 replace a1 := a3.2 _ _ a1
 refine Qk (QA (cs := #[.int .i64 x3]) E S Y Y Y ?_)
 clear E a S; rintro a w b5 E S
 obtain ⟨a7, a2, a8, S⟩ := S.freezeB
 replace h0 := h0.le a2
 replace a0 := a2.2 _ _ a0
 replace a1 := a2.2 _ _ a1
 replace a5 := a2.2 _ _ a5
 refine Qj E Y fun _ B => QI (Qv B Y Y fun _ C => Qj C Y ?_)
 clear E a B C; intro a E
 refine Jj ?_
 exact Qa E Tryz.results207 Y ⟨_, Y, a7, (a6.trans (a4.trans (a3.trans a2))), (Jy (it_Replace1 h0 (by (omega)) a8 a1 a5 a0) (by (rfl))), S⟩
theorem jE {M : Hp} {v0 : Value} {l0 : List Int} (h0 : Qy M v0 l0){x1 x2 x3 : Int}  (hb : l0.length ≤ 1000000000000) :
  Pu Tryz.prog (.func (.func 85) #[] #[]) M [v0, .int .i64 x1, .int .i64 x2, .int .i64 x3] (fun r M' => Qy M' r (Zn (ZD x1 x2) (Zi x1) x3 l0)) := by
 refine Qd Tryz.func85 Y Tryz.ntmps85 Y Tryz.call85 ?_
 intro a w M1 H hM1 S E
 replace h0 := h0.le hM1
 have b0 := h0.bound
 have hms0 := YE (ZD x1 x2) (Zi x1) l0 x3
 refine Qs (Qj E Y fun _ B => QI (Qn B Y ?_))
 clear E a B; intro a E
 refine Qk (Qm E S Y Y Y (QG h0) lerf ?_)
 clear E a S; rintro a a7 w a8 a0 a1 S E
 refine QD 3 E Y ?_
 clear E a; intro a E
 refine Qk (Qm E S Y Y Y (yQ a1 (by (omega))) lerf ?_)
 clear E a S; rintro a a9 w b1 a2 a3 S E
 refine Qk (Qm E S Y Y Y (QJ a3 (by omega)) lerf ?_)
 clear E a S; rintro a b2 w a4 a5 a6 S E
 refine Qj E Y ?_
 clear E a; intro a E
 refine Jj ?_
 exact Qa E Tryz.results85 Y ⟨_, Y, a4, (a0.trans (a2.trans a5)), a6, S⟩
theorem it_ReplaceAll {M : Hp} {v0 : Value} {l0 : List Int} (h0 : Jh Tryz.prog v0 M (QB) l0){x1 x2 : Int}  (hb : l0.length ≤ 1000000000000) :
  Pu Tryz.prog (.func (.func 208) #[] #[]) M [v0, .int .i64 x1, .int .i64 x2] (fun r M' => Jh Tryz.prog r M' QB (Zn (ZD x1 x2) (Zi x1) (-1) l0)) := by
 refine Qd Tryz.func208 Y Tryz.ntmps208 Y Tryz.call208 ?_
 intro a w M1 H hM1 S E
 replace h0 := h0.le hM1
 refine Qs (Qj E Y fun _ B => QI (QD 3 B Y ?_))
 clear E a B; intro a E
 refine Qk (Qm E S Y Y Y (yQ h0 (by (omega))) lerf ?_)
 clear E a S; rintro a a3 w a0 a1 a2 S E
 refine Qj E Y ?_
 clear E a; intro a E
 refine Jj ?_
 exact Qa E Tryz.results208 Y ⟨_, Y, a0, a1, a2, S⟩
theorem qg {M : Hp} {v0 : Value} {l0 : List Int} (h0 : Qy M v0 l0){x1 x2 : Int}  (hb : l0.length ≤ 1000000000000) :
  Pu Tryz.prog (.func (.func 86) #[] #[]) M [v0, .int .i64 x1, .int .i64 x2] (fun r M' => Qy M' r (Zn (ZD x1 x2) (Zi x1) (-1) l0)) := by
 refine Qd Tryz.func86 Y Tryz.ntmps86 Y Tryz.call86 ?_
 intro a w M1 H hM1 S E
 replace h0 := h0.le hM1
 have b0 := h0.bound
 have hms0 := YE (ZD x1 x2) (Zi x1) l0 (-1)
 refine Qs (Qj E Y fun _ B => QI (Qn B Y ?_))
 clear E a B; intro a E
 refine Qk (Qm E S Y Y Y (QG h0) lerf ?_)
 clear E a S; rintro a a7 w a8 a0 a1 S E
 refine QD 2 E Y ?_
 clear E a; intro a E
 refine Qk (Qm E S Y Y Y (it_ReplaceAll a1 (by (omega))) lerf ?_)
 clear E a S; rintro a a9 w b1 a2 a3 S E
 refine Qk (Qm E S Y Y Y (QJ a3 (by omega)) lerf ?_)
 clear E a S; rintro a b2 w a4 a5 a6 S E
 refine Qj E Y ?_
 clear E a; intro a E
 refine Jj ?_
 exact Qa E Tryz.results86 Y ⟨_, Y, a4, (a0.trans (a2.trans a5)), a6, S⟩
theorem it_Filter1 {M : Hp} {v9 : Value} {f9 : Int → Bool} (h9 : Gj Tryz.prog v9 M f9) {x0 x1 : Int} {bx9 : Nat} (hbx9 : M bx9 = some (.cells #[v9] 95)) :
  Pu Tryz.prog (.func (.func 321) #[] #[.pointer (some ⟨bx9, 0, none⟩)]) M [.int .i64 x0, .int .i64 x1] (fun r M' => r = .bool (f9 x0)) := by
 refine Qd Tryz.func321 Y Tryz.ntmps321 Y Tryz.call321 ?_
 intro a w M1 H hM1 S E
 replace h9 := h9.le hM1
 replace hbx9 := hM1.2 _ _ hbx9
 refine Qs (Qj E Y fun _ B => QI (Qb B Y Tryz.isAgg95 S.imm (Qf hbx9) fun _ C => Qn C Y ?_))
 clear E a B C; intro a E
 refine Qk (Qm E S Y Y Y (h9.2 x0) lerf ?_)
 clear E a S; rintro a _ w a0 a1 rfl S E
 refine Qj E Y ?_
 clear E a; intro a E
 refine Jj ?_
 exact Qa E Tryz.results321 Y ⟨_, Y, a0, a1, Y, S⟩
theorem it_Filter {M : Hp} {v0 : Value} {l0 : List Int} (h0 : Jh Tryz.prog v0 M (QB) l0) {v1 : Value} {f1 : Int → Bool} (h1 : Gj Tryz.prog v1 M f1) (hb : l0.length ≤ 1000000000000) :
  Pu Tryz.prog (.func (.func 288) #[] #[]) M [v0, v1] (fun r M' => Jh Tryz.prog r M' QB ((l0).filter f1)) := by
 refine Qd Tryz.func288 Y Tryz.ntmps288 Y Tryz.call288 ?_
 intro a w M1 H hM1 S E
 replace h0 := h0.le hM1
 replace h1 := h1.le hM1
 refine Qs ?_
 refine Qk (QA (cs := #[v1]) E S Y Y (cells_one h1.1) ?_)
 clear E a S; rintro a w a5 E S
 obtain ⟨a6, a0, a1, S⟩ := S.freezeB
 replace h0 := h0.le a0
 replace h1 := h1.le a0
 refine Qj E Y fun _ B => QI (Qn B Y fun _ C => Qv C Y Y ?_)
 clear E a B C; intro a E
 refine Qk (Qm E S Y Y Y (qa h0 ⟨Y, fun zx0 zx1 => it_Filter1 (x0 := zx0) (x1 := zx1) (f9 := f1) h1 a1⟩ (by (omega))) lerf ?_)
 clear E a S; rintro a a7 w a2 a3 a4 S E
 refine Qj E Y ?_
 clear E a; intro a E
 refine Jj ?_
 exact Qa E Tryz.results288 Y ⟨_, Y, a2, (a0.trans a3), (Jy a4 (by (exact zS _ _ _))), S⟩
theorem vU {M : Hp} {x0 : Int} :
  Pu Tryz.prog (.func (.func 289) #[] #[]) M [.int .i64 x0] (fun r M' => r = .bool (decide (0 ≠ x0))) := by
 refine Qd Tryz.func289 Y Tryz.ntmps289 Y Tryz.call289 ?_
 intro a w M1 H hM1 S E
 refine Qs (Qj E Y fun _ B => QI (Qj B Y fun _ C => QI (QD 2 C Y fun _ D => Wb D Y Y fun _ F => Qj F Y ?_)))
 clear E a B C D F; intro a E
 refine Jj ?_
 exact Qa E Tryz.results289 Y ⟨_, Y, M1, lerf, Y, S⟩
theorem it_Compact {M : Hp} {v0 : Value} {l0 : List Int} (h0 : Jh Tryz.prog v0 M (QB) l0) (hb : l0.length ≤ 1000000000000) :
  Pu Tryz.prog (.func (.func 209) #[] #[]) M [v0] (fun r M' => Jh Tryz.prog r M' QB ((l0).filter (fun x => decide (x ≠ 0)))) := by
 refine Qd Tryz.func209 Y Tryz.ntmps209 Y Tryz.call209 ?_
 intro a w M1 H hM1 S E
 replace h0 := h0.le hM1
 refine Qs (Qj E Y fun _ B => QI (Qn B Y ?_))
 clear E a B; intro a E
 refine Qk (Qm E S Y Y Y (it_Filter h0 ⟨Y, fun zx0 => vU (x0 := zx0) ⟩ (by (omega))) lerf ?_)
 clear E a S; rintro a a3 w a0 a1 a2 S E
 refine Qj E Y ?_
 clear E a; intro a E
 refine Jj ?_
 exact Qa E Tryz.results209 Y ⟨_, Y, a0, a1, (Jy a2 (by (congr 1; funext x; exact decide_eq_decide.2 ⟨Ne.symm, Ne.symm⟩))), S⟩
theorem jL {M : Hp} {v0 : Value} {l0 : List Int} (h0 : Qy M v0 l0)(hb : l0.length ≤ 1000000000000) :
  Pu Tryz.prog (.func (.func 87) #[] #[]) M [v0] (fun r M' => Qy M' r ((l0).filter (fun x => decide (x ≠ 0)))) := by
 refine Qd Tryz.func87 Y Tryz.ntmps87 Y Tryz.call87 ?_
 intro a w M1 H hM1 S E
 replace h0 := h0.le hM1
 have b0 := h0.bound
 have hfl := List.length_filter_le (fun x => decide (x ≠ 0)) l0
 refine Qs (Qj E Y fun _ B => QI (Qn B Y ?_))
 clear E a B; intro a E
 refine Qk (Qm E S Y Y Y (QG h0) lerf ?_)
 clear E a S; rintro a a7 w a8 a0 a1 S E
 refine Qk (Qm E S Y Y Y (it_Compact a1 (by (omega))) lerf ?_)
 clear E a S; rintro a a9 w b1 a2 a3 S E
 refine Qk (Qm E S Y Y Y (QJ a3 (by omega)) lerf ?_)
 clear E a S; rintro a b2 w a4 a5 a6 S E
 refine Qj E Y ?_
 clear E a; intro a E
 refine Jj ?_
 exact Qa E Tryz.results87 Y ⟨_, Y, a4, (a0.trans (a2.trans a5)), a6, S⟩
theorem it_Splice1 {M : Hp} {v1 v3 : Value} {l1 l3 : List Int} {c2 : Int} (h2 : 0 ≤ c2 ∧ c2 ≤ 1000000000000) (hb : l1.length ≤ 1000000000000) {bx1 bx2 bx3 : Nat} (hbx1 : M bx1 = some (.cells #[v1] 62)) (h1 : Jh Tryz.prog v1 M QB l1) (hbx2 : M bx2 = some (.cells #[.int .i64 c2] 3)) (hbx3 : M bx3 = some (.cells #[v3] 22)) (h3 : Qy M v3 l3) :
  Jh Tryz.prog (.func (.func 322) #[] #[.pointer (some ⟨bx1, 0, none⟩), .pointer (some ⟨bx2, 0, none⟩), .pointer (some ⟨bx3, 0, none⟩)]) M (QB) (jj l1 l3 (c2).toNat) := by
 refine Jw Tryz.func322 Y Tryz.ntmps322 Y Tryz.call322 ?_
 intro y J X a w M1 c H hJM hM1 hY hJ S E
 replace hbx1 := hM1.2 _ _ hbx1
 replace hbx2 := hM1.2 _ _ hbx2
 replace hbx3 := hM1.2 _ _ hbx3
 replace h1 := h1.le hM1
 replace h3 := h3.le hM1
 have b3 := h3.bound
 refine Qs ?_
 refine Qk (QA (cs := #[y]) E S Y Y (cells_one hY.1) ?_)
 clear E a S; rintro a w b1 E S
 obtain ⟨e2, a1, a0, S⟩ := S.freezeB
 replace hbx1 := a1.2 _ _ hbx1
 replace hbx2 := a1.2 _ _ hbx2
 replace hbx3 := a1.2 _ _ hbx3
 replace h1 := h1.le a1
 replace h3 := h3.le a1
 replace hJ := hJM _ _ _ _ a1 hJ
 refine QI ?_
 refine Qk (Ja (cs := #[.int .i64 0]) E S Y Tryz.zeroValue3 Y ?_)
 clear E a S; rintro a w a3 E S
 refine Zp (Qb E Y Tryz.isAgg62 S.imm (Qf hbx1) ?_)
 clear E a; intro a E
 refine ZH ?_
 replace S := S.front2.front1
 replace E := E.keep (l' := [(2, .pointer (some ⟨bx2, 0, none⟩)), (3, .pointer (some ⟨bx3, 0, none⟩)), (4, .pointer (some ⟨b1, 0, none⟩)), (5, .pointer (some ⟨a3, 0, none⟩)), (11, v1)]) ⟨Y, Y, Y, Y, Y, trivial⟩
 replace S := S.front1.front1
 replace S := S.blk_int (j := ((([] : List Int)).length : Int)) (by ((simp; done)))
 have S0 := S; clear S; have S := St.pack [Jk a3 (.cells #[.int .i64 ((([] : List Int)).length : Int)] 3), c] S0; clear S0
 refine JK (RV := QB) (l := l1) (fun pre M c => ∃ (c0 : Qr), c = Yf [Jk a3 (.cells #[.int .i64 ((pre).length : Int)] 3), c0] ∧ (J (spP pre l3 c2.toNat) M c0)) (fun cd pre M c => cd = .ret ∧ ∃ z, z <+: (jj l1 l3 (c2).toNat) ∧ X z M c) E S Y h1 lerf (fun _ _ _ h => by rw [h]; rfl) (by decide) (by rintro _ M M' c hM ⟨c0, rfl, f0⟩; exact ⟨_, rfl, hJM _ _ _ _ hM f0⟩) ⟨_, rfl, Ju hJ (by (rfl))⟩ ?_ ?_ ?_
 clear E S
 ·rintro lb_5 rec_6 pre x _ a w c5 _ G a5 c6 rfl ⟨c0, rfl, f0⟩ E S
  replace E : Env a 47 [] [(12, .int .i64 x), (2, .pointer (some ⟨bx2, 0, none⟩)), (3, .pointer (some ⟨bx3, 0, none⟩)), (4, .pointer (some ⟨b1, 0, none⟩)), (5, .pointer (some ⟨a3, 0, none⟩)), (11, v1)] := E
  replace S := S.swap.unpack2
  have hq0 := Js c6
  replace hbx2 := a5.2 _ _ hbx2
  replace hbx3 := a5.2 _ _ hbx3
  replace h3 := h3.le a5
  replace a0 := a5.2 _ _ a0
  have hpl := c6.length_le; simp at hpl
  refine Qh (Qj E Y ?_)
  clear E a; intro a E
  refine Qz ?_
  replace S := S.front2
  refine rb S ?_
  clear S; intro w S
  refine QW (UK (QH E Y (Tryz.isAgg3 _) (Qo (S.mem (.tail _ (.head _)))) fun _ B => Qb B Y Tryz.isAgg3 S.imm (Qf hbx2) fun _ C => QK C Y Y ?_))
  clear E a B C; intro a E
  refine Qz ?_
  refine Ql E Y (fun d0 => ?_) (fun d0 => ?_)
  ·refine Qs (Qb E Y Tryz.isAgg22 S.imm (Qf hbx3) fun _ B => Qt B Y QE h3.len fun _ C => Qn C Y ?_)
   clear E a B C; intro a E
   refine ZH ?_
   refine QN (γ := Nat) (fun (k : Nat) a w => ∃ (b2 : Hp) (cL1 : Qr), Hp.le c5 b2 ∧ St w b2 (lp lb_5 rec_6 .busy none :: Jk a3 (.cells #[.int .i64 ((pre).length : Int)] 3) :: cL1 :: G) ∧ Env a 47 [] [(4, .pointer (some ⟨b1, 0, none⟩)), (5, .pointer (some ⟨a3, 0, none⟩)), (6, .int .i64 x), (16, v3), (17, .int .i64 (((l3).length : Nat) : Int)), (18, .int .i64 ((k : Nat) : Int))] ∧ (k ≤ (l3).length) ∧ J (pre ++ l3.take k) b2 cL1) (fun k => ((l3).length) - k) 0 ⟨c5, _, lerf, S, E.keep ⟨Y, Y, Y, Y, Y, Y, trivial⟩, by (omega), Ju f0 (by (rw [spP_le (by omega)]; simp))⟩ ?_
   try clear E
   try clear S
   try clear a
   try clear w
   rintro k a w ⟨b2, cL1, a2, S, E, e3, f0⟩
   replace hbx2 := a2.2 _ _ hbx2
   replace hbx3 := a2.2 _ _ hbx3
   replace h3 := h3.le a2
   replace a0 := a2.2 _ _ a0
   refine Qs (Jc E Y Y ?_)
   clear E a; intro a E
   refine ZJ ?_
   refine Ql E Y (fun d1 => ?_) (fun d1 => ?_)
   ·refine YZ ?_
    obtain ⟨b9, d2⟩ : ∃ x, (l3)[k]? = some x := ⟨_, List.getElem?_eq_getElem (by omega)⟩
    obtain ⟨e4, d3, d4⟩ := h3.at d2
    refine QZ E Y Y QE d3 Y fun _ B => Qb B Y Tryz.isAgg3 S.imm d4 fun _ C => Qj C Y fun _ D => QI (Qb D Y Tryz.isAgg95 S.imm (Qf a0) fun _ F => Qn F Y ?_)
    clear E a B C D F; intro a E
    replace S := S.front2
    refine Qk (JC (x := b9) E S Y Y Y hY (a1.trans (a5.trans a2)) (by (exact spM_pref (by assumption) (by omega) (by assumption))) Y f0 ?_)
    clear E a S; rintro a w b4 c7 go_16 a6 f0 S E
    replace hbx2 := a6.2 _ _ hbx2
    replace hbx3 := a6.2 _ _ hbx3
    replace h3 := h3.le a6
    replace a0 := a6.2 _ _ a0
    cases go_16
    ·replace f0 : X (pre ++ l3.take k ++ [b9]) b4 c7 := f0
     refine Ji E Y ?_
     clear E a; intro a E
     refine Qz ?_
     refine QY E Y Y ?_
     refine QM (ZC (J_u (ZC (UA (ZC ?_)))))
     replace S := S.front2.drop.front1
     exact ⟨b4, _, (a2.trans a6), ⟨Y, _, (by ((exact spM_pref (by assumption) (by omega) (by assumption)))), f0⟩, S⟩
    ·replace f0 : J (pre ++ l3.take k ++ [b9]) b4 c7 := f0
     refine Ji E Y ?_
     clear E a; intro a E
     refine Qz ?_
     refine QF E Y Y ?_
     refine zu (Qp (m := ((k + 1 : Nat) : Int)) E Y Y fun _ B => Qn B Y ?_)
     clear E a B; intro a E
     refine Qz ?_
     replace S := S.front2.front2
     exact ⟨k + 1, ⟨b4, _, (a2.trans a6), S, E.keep ⟨Y, Y, Y, Y, Y, Y, trivial⟩, by (omega), Ju f0 (by (rw [List.append_assoc, YP (by assumption)]))⟩, by omega⟩
   ·refine JO (Ul (Ul (zx (JZ (UK (Qb E Y Tryz.isAgg95 S.imm (Qf a0) fun _ B => Qn B Y ?_))))))
    clear E a B; intro a E
    replace S := S.front2
    refine Qk (JC (x := x) E S Y Y Y hY (a1.trans (a5.trans a2)) (by ((rw [List.take_of_length_le (by omega)]; exact WS (by omega) (by assumption)))) Y f0 ?_)
    clear E a S; rintro a w b5 c1 go_19 a7 f0 S E
    replace hbx2 := a7.2 _ _ hbx2
    replace hbx3 := a7.2 _ _ hbx3
    replace h3 := h3.le a7
    replace a0 := a7.2 _ _ a0
    cases go_19
    ·replace f0 : X (pre ++ l3.take k ++ [x]) b5 c1 := f0
     refine Ji E Y ?_
     clear E a; intro a E
     refine Qz ?_
     refine QY E Y Y ?_
     refine QM (UA (ZC ?_))
     replace S := S.front2.drop.front1
     exact ⟨b5, _, (a2.trans a7), ⟨Y, _, (by ((first | (rw [List.take_of_length_le (by omega)]; exact WS (by omega) (by assumption)) | exact UL (by omega) (by assumption)))), f0⟩, S⟩
    ·replace f0 : J (pre ++ l3.take k ++ [x]) b5 c1 := f0
     refine Ji E Y ?_
     clear E a; intro a E
     refine Qz ?_
     refine QF E Y Y ?_
     refine Qx (JZ (Qh (QH E Y (Tryz.isAgg3 _) (Qo (S.mem (.tail _ (.tail _ (.head _))))) fun _ B => Qp (m := (((pre).length + 1 : Nat) : Int)) B Y Y ?_)))
     clear E a B; intro a E
     replace S := S.front2
     refine Jm (QS E S Y Y (Tryz.sizeOf3 _) Y ?_)
     clear E a S; rintro a w E S
     refine Jz (ZK ?_)
     replace S := S.front1.front1.front1.front1
     replace S := S.blk_int (j := (((pre ++ [x])).length : Int)) (by ((simp; done)))
     have S0 := S; clear S; have S := (St.pack [Jk a3 (.cells #[.int .i64 (((pre ++ [x])).length : Int)] 3), c1] S0).swap; clear S0
     exact ⟨b5, _, (a2.trans a7), ⟨_, Y, Ju f0 (by (rw [spP_at (by omega), List.take_of_length_le (by omega)]))⟩, S⟩
  ·refine je (Qb E Y Tryz.isAgg95 S.imm (Qf a0) fun _ B => Qn B Y ?_)
   clear E a B; intro a E
   replace S := S.front2
   refine Qk (JC (x := x) E S Y Y Y hY (a1.trans a5) (by (exact UL (by omega) (by assumption))) Y f0 ?_)
   clear E a S; rintro a w b6 c3 go_22 a8 f0 S E
   replace hbx2 := a8.2 _ _ hbx2
   replace hbx3 := a8.2 _ _ hbx3
   replace h3 := h3.le a8
   replace a0 := a8.2 _ _ a0
   cases go_22
   ·replace f0 : X (spP pre l3 c2.toNat ++ [x]) b6 c3 := f0
    refine Ji E Y ?_
    clear E a; intro a E
    refine Qz ?_
    refine QY E Y Y ?_
    refine QM (UA (ZC ?_))
    replace S := S.front2.drop.front1
    exact ⟨b6, _, a8, ⟨Y, _, (by ((first | (rw [List.take_of_length_le (by omega)]; exact WS (by omega) (by assumption)) | exact UL (by omega) (by assumption)))), f0⟩, S⟩
   ·replace f0 : J (spP pre l3 c2.toNat ++ [x]) b6 c3 := f0
    refine Ji E Y ?_
    clear E a; intro a E
    refine Qz ?_
    refine QF E Y Y ?_
    refine Qx (JZ (Qh (QH E Y (Tryz.isAgg3 _) (Qo (S.mem (.tail _ (.tail _ (.head _))))) fun _ B => Qp (m := (((pre).length + 1 : Nat) : Int)) B Y Y ?_)))
    clear E a B; intro a E
    replace S := S.front2
    refine Jm (QS E S Y Y (Tryz.sizeOf3 _) Y ?_)
    clear E a S; rintro a w E S
    refine Jz (ZK ?_)
    replace S := S.front1.front1.front1.front1
    replace S := S.blk_int (j := (((pre ++ [x])).length : Int)) (by ((simp; done)))
    have S0 := S; clear S; have S := (St.pack [Jk a3 (.cells #[.int .i64 (((pre ++ [x])).length : Int)] 3), c3] S0).swap; clear S0
    exact ⟨b6, _, a8, ⟨_, Y, Ju f0 (by (rw [spP_snoc (by omega)]))⟩, S⟩
 ·rintro a w c4 _ D_24 a4 ⟨c0, rfl, f0⟩ S E
  replace S := S.unpack2
  replace hbx2 := a4.2 _ _ hbx2
  replace hbx3 := a4.2 _ _ hbx3
  replace h3 := h3.le a4
  replace a0 := a4.2 _ _ a0
  refine ZK (JZ (Qs (QH E Y (Tryz.isAgg3 _) (Qo (S.mem (.head _))) fun _ B => Qb B Y Tryz.isAgg3 S.imm (Qf hbx2) fun _ C => Vy C Y Y ?_)))
  clear E a B C; intro a E
  refine Qz ?_
  refine Ql E Y (fun d5 => ?_) (fun d5 => ?_)
  ·refine Qs (Qb E Y Tryz.isAgg22 S.imm (Qf hbx3) fun _ B => Qt B Y QE h3.len fun _ C => Qn C Y ?_)
   clear E a B C; intro a E
   refine ZH ?_
   refine QN (γ := Nat) (fun (k : Nat) a w => ∃ (b0 : Hp) (cL2 : Qr), Hp.le c4 b0 ∧ St w b0 (Jk a3 (.cells #[.int .i64 ((l1).length : Int)] 3) :: cL2 :: zt (D_24 :: []) :: H) ∧ Env a 47 ((D_24 :: []).map mk) [(4, .pointer (some ⟨b1, 0, none⟩)), (36, v3), (37, .int .i64 (((l3).length : Nat) : Int)), (38, .int .i64 ((k : Nat) : Int))] ∧ (k ≤ (l3).length) ∧ J (l1 ++ l3.take k) b0 cL2) (fun k => ((l3).length) - k) 0 ⟨c4, _, lerf, S, E.keep ⟨Y, Y, Y, Y, trivial⟩, by (omega), Ju f0 (by (rw [spP_le (by omega)]; simp))⟩ ?_
   try clear E
   try clear S
   try clear a
   try clear w
   rintro k a w ⟨b0, cL2, a9, S, E, e5, f0⟩
   replace h3 := h3.le a9
   replace a0 := a9.2 _ _ a0
   refine Qs (Jc E Y Y ?_)
   clear E a; intro a E
   refine ZJ ?_
   refine Ql E Y (fun d6 => ?_) (fun d6 => ?_)
   ·refine YZ ?_
    obtain ⟨b7, d7⟩ : ∃ x, (l3)[k]? = some x := ⟨_, List.getElem?_eq_getElem (by omega)⟩
    obtain ⟨e6, d8, d9⟩ := h3.at d7
    refine QZ E Y Y QE d8 Y fun _ B => Qb B Y Tryz.isAgg3 S.imm d9 fun _ C => Qj C Y fun _ D => QI (Qb D Y Tryz.isAgg95 S.imm (Qf a0) fun _ F => Qn F Y ?_)
    clear E a B C D F; intro a E
    replace S := S.front1
    refine Qk (JC (x := b7) E S Y Y Y hY (a1.trans (a4.trans a9)) (by (exact spE_pref (by omega) (by assumption))) Y f0 ?_)
    clear E a S; rintro a w b8 c8 go_32 c9 f0 S E
    cases go_32
    ·replace f0 : X (l1 ++ l3.take k ++ [b7]) b8 c8 := f0
     refine Ji E Y ?_
     clear E a; intro a E
     refine Qz ?_
     refine QY E Y Y ?_
     refine QM (ZC (J_u (ZC ?_)))
     replace S := S.front1.drop.front1
     exact QR E S Tryz.results322 (fun w S => ⟨_, Y, b8, _, (a1.trans (a4.trans (a9.trans c9))), .inr ⟨(l1 ++ l3.take k ++ [b7]), (by ((exact spE_pref (by omega) (by assumption)))), f0⟩, S⟩)
    ·replace f0 : J (l1 ++ l3.take k ++ [b7]) b8 c8 := f0
     refine Ji E Y ?_
     clear E a; intro a E
     refine Qz ?_
     refine QF E Y Y ?_
     refine zu (Qp (m := ((k + 1 : Nat) : Int)) E Y Y fun _ B => Qn B Y ?_)
     clear E a B; intro a E
     refine Qz ?_
     replace S := S.front2.front1.front2
     exact ⟨k + 1, ⟨b8, _, (a9.trans c9), S, E.keep ⟨Y, Y, Y, Y, trivial⟩, by (omega), Ju f0 (by (rw [List.append_assoc, YP (by assumption)]))⟩, by omega⟩
   ·refine JO (Ul (Ul (zx (Yh ?_))))
    replace S := S.drop.front1
    have hpre : l1 ++ l3.take k = jj l1 l3 (c2).toNat := by first | (rw [spF_end (by omega), List.take_of_length_le (by omega)]) | (exact spP_end (by omega))
    rw [hpre] at f0
    exact QR E S Tryz.results322 (fun w S => ⟨_, Y, b0, _, (a1.trans (a4.trans a9)), .inl f0, S⟩)
  ·refine J_x ?_
   replace S := S.drop.front1
   have hpre : spP l1 l3 c2.toNat = jj l1 l3 (c2).toNat := by first | (rw [spF_end (by omega), List.take_of_length_le (by omega)]) | (exact spP_end (by omega))
   rw [hpre] at f0
   exact QR E S Tryz.results322 (fun w S => ⟨_, Y, c4, _, (a1.trans a4), .inl f0, S⟩)
 ·rintro a w e0 c_ D_34 e7 _ e1 e8 ⟨rfl, z_, hz_, f0⟩ S E
  refine QM (ZC (UA ?_))
  replace S := S.front1
  exact QR E S Tryz.results322 (fun w S => ⟨_, Y, e0, _, (a1.trans e1), .inr ⟨z_, (by assumption), f0⟩, S⟩)
theorem it_Splice {M : Hp} {v0 : Value} {l0 : List Int} (h0 : Jh Tryz.prog v0 M (QB) l0){x1 : Int} {v2 : Value} {l2 : List Int} (h2 : Qy M v2 l2) (hb : l0.length ≤ 1000000000000) (g1 : 0 ≤ x1 ∧ x1 ≤ 1000000000000) :
  Pu Tryz.prog (.func (.func 291) #[] #[]) M [v0, .int .i64 x1, v2] (fun r M' => Jh Tryz.prog r M' QB (jj l0 l2 (x1).toNat)) := by
 refine Qd Tryz.func291 Y Tryz.ntmps291 Y Tryz.call291 ?_
 intro a w M1 H hM1 S E
 replace h0 := h0.le hM1
 replace h2 := h2.le hM1
 refine Qs ?_
 refine Qk (QA (cs := #[v0]) E S Y Y (cells_one h0.1) ?_)
 clear E a S; rintro a w a9 E S
 obtain ⟨b0, a3, a0, S⟩ := S.freezeB
 replace h0 := h0.le a3
 replace h2 := h2.le a3
 refine Qk (QA (cs := #[.int .i64 x1]) E S Y Y Y ?_)
 clear E a S; rintro a w b1 E S
 obtain ⟨b2, a2, a4, S⟩ := S.freezeB
 replace h0 := h0.le a2
 replace h2 := h2.le a2
 replace a0 := a2.2 _ _ a0
 refine Qk (QA (cs := #[v2]) E S Y Y (cells_one (QX.one' h2)) ?_)
 clear E a S; rintro a w b3 E S
 obtain ⟨a5, a1, a6, S⟩ := S.freezeB
 replace h0 := h0.le a1
 replace h2 := h2.le a1
 replace a0 := a1.2 _ _ a0
 replace a4 := a1.2 _ _ a4
 refine Qj E Y fun _ B => Zp (Qb B Y Tryz.isAgg3 S.imm (Qf a4) fun _ C => Jc C Y Y ?_)
 clear E a B C; intro a E
 refine Qz ?_
 have a7 : (decide (x1 < 0)) = false := by (apply decide_eq_false; omega)
 refine QF E Y a7 ?_
 refine je (Qb E Y Tryz.isAgg22 S.imm (Qf a6) fun _ B => Qt B Y QE h2.len fun _ C => QK C Y Y ?_)
 clear E a B C; intro a E
 refine Qz ?_
 refine Ql E Y (fun a8 => ?_) (fun a8 => ?_)
 ·refine Qs (Qb E Y Tryz.isAgg62 S.imm (Qf a0) fun _ B => Qj B Y ?_)
  clear E a B; intro a E
  refine UJ ?_
  exact Qa E Tryz.results291 Y ⟨_, Y, a5, (a3.trans (a2.trans a1)), (Jy h0 (by (rw [show l2 = [] from List.eq_nil_of_length_eq_zero (by omega), spF_nil]))), S⟩
 ·refine VC (Qv E Y Y fun _ B => Qj B Y ?_)
  clear E a B; intro a E
  refine Jj ?_
  exact Qa E Tryz.results291 Y ⟨_, Y, a5, (a3.trans (a2.trans a1)), (Jy (it_Splice1 (by omega) (by omega) a0 h0 a4 a6 h2) (by (rfl))), S⟩
theorem jB {M : Hp} {v0 v2 : Value} {l0 l2 : List Int} {c1 : Int} (hb : l0.length + l2.length ≤ 1000000000000) (g1 : 0 ≤ c1 ∧ c1 ≤ 1000000000000) {bx0 bx1 bx2 : Nat} (hbx0 : M bx0 = some (.cells #[v0] 22)) (h0 : Qy M v0 l0) (hbx1 : M bx1 = some (.cells #[.int .i64 c1] 3)) (hbx2 : M bx2 = some (.cells #[v2] 22)) (h2 : Qy M v2 l2) :
  Pu Tryz.prog (.func (.func 290) #[] #[.pointer (some ⟨bx0, 0, none⟩), .pointer (some ⟨bx1, 0, none⟩), .pointer (some ⟨bx2, 0, none⟩)]) M [] (fun r M' => Qy M' r (jj l0 l2 (c1).toNat)) := by
 refine Qd Tryz.func290 Y Tryz.ntmps290 Y Tryz.call290 ?_
 intro a w M1 H hM1 S E
 replace hbx0 := hM1.2 _ _ hbx0
 replace hbx1 := hM1.2 _ _ hbx1
 replace hbx2 := hM1.2 _ _ hbx2
 replace h0 := h0.le hM1
 replace h2 := h2.le hM1
 have hl := spF_len l0 l2 c1.toNat
 refine Qs (Qj E Y ?_)
 clear E a; intro a E
 refine ZJ ?_
 have hbx0k0 := hbx0
 have hbx1k0 := hbx1
 have hbx2k0 := hbx2
 replace S := S.mono_heap (w' := World.drew _) rfl
 refine Jb (C := fun x w => agree M1 w) (bf := (fun i => [])) [0, 2, 3, 6] [0, 2, 3, 1, 4, 5, 6] Tryz.mixed (by kernel_rfl) (fun x hq => S.imm) ?_
 refine QU E Y (fun w hC => (QQ E Y Tryz.isAgg22 hC (Qf hbx0k0))) fun _ B => QU B Y (fun w hC => (QQ B Y Tryz.isAgg3 hC (Qf hbx1k0))) fun _ D => QU D Y (fun w hC => (QQ D Y Tryz.isAgg22 hC (Qf hbx2k0))) ?_
 clear E a B D; intro a E
 refine ZP Y Y Y (Qm E S Y Y Y (QG h0) lerf ?_)
 clear E a S; rintro a a7 w a8 a0 a3 S E
 replace h2 := h2.le a0
 refine ⟨fun x hq hb => (Qu a0 S.imm), ?_⟩
 refine ZP Y Y Y (Qm E S Y Y Y (it_Splice a3 h2 (by omega) (by omega)) lerf ?_)
 clear E a S; rintro a a9 w b0 a1 a4 S E
 refine ⟨fun x hq hb => (Qu (a0.trans a1) S.imm), ?_⟩
 refine ZP Y Y Y (Qm E S Y Y Y (QJ a4 (by omega)) lerf ?_)
 clear E a S; rintro a b1 w a5 a2 a6 S E
 refine ⟨fun x hq hb => (Qu (a0.trans (a1.trans a2)) S.imm), ?_⟩
 refine QU E Y (fun w hC => (Jx E Y)) ?_
 clear E a; intro a E
 refine JI (JH ?_)
 refine JZ (QM ?_)
 exact Qa E Tryz.results290 Y ⟨_, Y, a5, (a0.trans (a1.trans a2)), a6, S⟩
theorem vb {M : Hp} {v0 v2 : Value} {l0 l2 : List Int} (h0 : Qy M v0 l0) (h2 : Qy M v2 l2){x1 : Int} (hb : l0.length + l2.length ≤ 1000000000000) (g1 : 0 ≤ x1 ∧ x1 ≤ 1000000000000) :
  Pu Tryz.prog (.func (.func 210) #[] #[]) M [v0, .int .i64 x1, v2] (fun r M' => ∃ t0, r = .tuple #[t0, .bool true] ∧ Qy M' t0 (jj l0 l2 (x1).toNat)) := by
 refine Qd Tryz.func210 Y Tryz.ntmps210 Y Tryz.call210 ?_
 intro a w M1 H hM1 S E
 replace h0 := h0.le hM1
 replace h2 := h2.le hM1
 refine Qs ?_
 refine Qk (QA (cs := #[v0]) E S Y Y (cells_one (QX.one' h0)) ?_)
 clear E a S; rintro a w a9 E S
 obtain ⟨b0, a3, a0, S⟩ := S.freezeB
 replace h0 := h0.le a3
 replace h2 := h2.le a3
 refine Qk (QA (cs := #[.int .i64 x1]) E S Y Y Y ?_)
 clear E a S; rintro a w b1 E S
 obtain ⟨b2, a2, a4, S⟩ := S.freezeB
 replace h0 := h0.le a2
 replace h2 := h2.le a2
 replace a0 := a2.2 _ _ a0
 refine Qk (QA (cs := #[v2]) E S Y Y (cells_one (QX.one' h2)) ?_)
 clear E a S; rintro a w b3 E S
 obtain ⟨b4, a1, a5, S⟩ := S.freezeB
 replace h0 := h0.le a1
 replace h2 := h2.le a1
 replace a0 := a1.2 _ _ a0
 replace a4 := a1.2 _ _ a4
 refine QD 2 E Y fun _ B => QI (Qv B Y Y ?_)
 clear E a B; intro a E
 refine Qk (Qm E S Y Y Y (Yy ⟨Y, jB  (by omega) (by omega) a0 h0 a4 a5 h2⟩) lerf ?_)
 clear E a S; rintro a _ w a6 a7 ⟨b5, rfl, a8⟩ S E
 refine Qg E Y Y fun _ B => Qg B Y Y fun _ C => QD 2 C Y ?_
 clear E a B C; intro a E
 refine Jj ?_
 exact Zr E Tryz.results210 Y Y ⟨_, Y, a6, (a3.trans (a2.trans (a1.trans a7))), ⟨_, (by rfl), (QX.eqL a8 (by (rfl)))⟩, S⟩
theorem lo_Partial1 {M : Hp} {m2 : Value} {q2 : List Int} (hm2 : ye M m2 (Sl.encS q2)) {x0 : Int} {bx1 bx2 : Nat} (hbx1 : M bx1 = some (.cells #[.func (.func 284) #[] #[]] 132)) (hbx2 : M bx2 = some (.cells #[m2] 116)) :
  Pu Tryz.prog (.func (.func 337) #[] #[.pointer (some ⟨bx1, 0, none⟩), .pointer (some ⟨bx2, 0, none⟩)]) M [.int .i64 x0] (fun r M' => r = .bool (decide (x0 ∈ q2))) := by
 refine Qd Tryz.func337 Y Tryz.ntmps337 Y Tryz.call337 ?_
 intro a w M1 H hM1 S E
 replace hm2 := hm2.le hM1
 replace hbx1 := hM1.2 _ _ hbx1
 replace hbx2 := hM1.2 _ _ hbx2
 refine Qs (Qj E Y fun _ B => QI (Qb B Y Tryz.isAgg132 S.imm (Qf hbx1) fun _ C => Qb C Y Tryz.isAgg116 S.imm (Qf hbx2) fun _ D => Qn D Y ?_))
 clear E a B C D; intro a E
 refine Qk (Qm E S Y Y Y (zF hm2) lerf ?_)
 clear E a S; rintro a _ w a0 a1 rfl S E
 refine Qj E Y ?_
 clear E a; intro a E
 refine Jj ?_
 exact Qa E Tryz.results337 Y ⟨_, Y, a0, a1, Y, S⟩
theorem GY {M : Hp} {m1 : Value} {q1 : List Int} (hm1 : ye M m1 (Sl.encS q1)) :
  Pu Tryz.prog (.func (.func 323) #[] #[]) M [.func (.func 284) #[] #[], m1] (fun r M' => Gj Tryz.prog r M' (fun x => decide (x ∈ q1))) := by
 refine Qd Tryz.func323 Y Tryz.ntmps323 Y Tryz.call323 ?_
 intro a w M1 H hM1 S E
 replace hm1 := hm1.le hM1
 refine Qs ?_
 refine Qk (QA (cs := #[.func (.func 284) #[] #[]]) E S Y Y Y ?_)
 clear E a S; rintro a w a5 E S
 obtain ⟨a6, a2, a0, S⟩ := S.freezeB
 replace hm1 := hm1.le a2
 refine Qk (QA (cs := #[m1]) E S Y Y (cells_one (ye.one' hm1)) ?_)
 clear E a S; rintro a w a7 E S
 obtain ⟨a3, a1, a4, S⟩ := S.freezeB
 replace hm1 := hm1.le a1
 replace a0 := a1.2 _ _ a0
 refine Qj E Y fun _ B => QI (Qv B Y Y fun _ C => Qj C Y ?_)
 clear E a B C; intro a E
 refine Jj ?_
 exact Qa E Tryz.results323 Y ⟨_, Y, a3, (a2.trans a1), ⟨Y, fun zx0 => lo_Partial1 (x0 := zx0) hm1 a0 a4⟩, S⟩
theorem it_TrimFirst {M : Hp} {v0 : Value} {l0 : List Int} (h0 : Jh Tryz.prog v0 M (QB) l0){v1 : Value} {l1 : List Int} (h1 : Qy M v1 l1) :
  Pu Tryz.prog (.func (.func 292) #[] #[]) M [v0, v1] (fun r M' => Jh Tryz.prog r M' QB ((l0).dropWhile (fun x => decide (x ∈ l1)))) := by
 refine Qd Tryz.func292 Y Tryz.ntmps292 Y Tryz.call292 ?_
 intro a w M1 H hM1 S E
 replace h0 := h0.le hM1
 replace h1 := h1.le hM1
 refine Qs (Qj E Y fun _ B => QI (QD 2 B Y ?_))
 clear E a B; intro a E
 refine Qk (VF (p := []) E S Y Y Y (ZE h1) lerf ?_)
 clear E a S; rintro a _ w a3 _ a0 ⟨a4, rfl, rfl⟩ S E
 replace S : St w a3 (Zg a4 (Qw l1) :: _) := S
 replace h0 := h0.le a0
 have S0 := S; clear S
 obtain ⟨b0, a1, a5, S⟩ := S0.freezeM
 clear S0
 replace h0 := h0.le a1
 refine Qk (Qm E S Y Y Y (GY a5) lerf ?_)
 clear E a S; rintro a b1 w b2 a2 a6 S E
 replace h0 := h0.le a2
 refine Qk (Qm E S Y Y Y (Wu h0 a6) lerf ?_)
 clear E a S; rintro a b3 w a7 a8 a9 S E
 refine Qj E Y ?_
 clear E a; intro a E
 refine Jj ?_
 exact Qa E Tryz.results292 Y ⟨_, Y, a7, (a0.trans (a1.trans (a2.trans a8))), (Jy a9 (by (simp only [Yd]))), S⟩
theorem zM {M : Hp} {v0 v1 : Value} {l0 l1 : List Int} (h0 : Qy M v0 l0) (h1 : Qy M v1 l1) (hb : l0.length ≤ 1000000000000) :
  Pu Tryz.prog (.func (.func 211) #[] #[]) M [v0, v1] (fun r M' => Qy M' r ((l0).dropWhile (fun x => decide (x ∈ l1)))) := by
 refine Qd Tryz.func211 Y Tryz.ntmps211 Y Tryz.call211 ?_
 intro a w M1 H hM1 S E
 replace h0 := h0.le hM1
 replace h1 := h1.le hM1
 have b0 := h0.bound
 have b1 := h1.bound
 have hw1 := vv (fun x => decide (x ∈ l1)) l0
 refine Qs (Qj E Y fun _ B => QI (Qn B Y ?_))
 clear E a B; intro a E
 refine Qk (Qm E S Y Y Y (QG h0) lerf ?_)
 clear E a S; rintro a a7 w a8 a0 a1 S E
 replace h1 := h1.le a0
 refine Qn E Y ?_
 clear E a; intro a E
 refine Qk (Qm E S Y Y Y (it_TrimFirst a1 h1) lerf ?_)
 clear E a S; rintro a a9 w b2 a2 a3 S E
 refine Qk (Qm E S Y Y Y (QJ a3 (by omega)) lerf ?_)
 clear E a S; rintro a b3 w a4 a5 a6 S E
 refine Qj E Y ?_
 clear E a; intro a E
 refine Jj ?_
 exact Qa E Tryz.results211 Y ⟨_, Y, a4, (a0.trans (a2.trans a5)), a6, S⟩
theorem it_TrimLast {M : Hp} {v0 : Value} {l0 : List Int} (h0 : Jh Tryz.prog v0 M (QB) l0){v1 : Value} {l1 : List Int} (h1 : Qy M v1 l1) (hb : l0.length ≤ 1000000000000) :
  Pu Tryz.prog (.func (.func 293) #[] #[]) M [v0, v1] (fun r M' => Jh Tryz.prog r M' QB (VE (fun x => decide (x ∈ l1)) l0)) := by
 refine Qd Tryz.func293 Y Tryz.ntmps293 Y Tryz.call293 ?_
 intro a w M1 H hM1 S E
 replace h0 := h0.le hM1
 replace h1 := h1.le hM1
 refine Qs (Qj E Y fun _ B => QI (QD 2 B Y ?_))
 clear E a B; intro a E
 refine Qk (VF (p := []) E S Y Y Y (ZE h1) lerf ?_)
 clear E a S; rintro a _ w a3 _ a0 ⟨a4, rfl, rfl⟩ S E
 replace S : St w a3 (Zg a4 (Qw l1) :: _) := S
 replace h0 := h0.le a0
 have S0 := S; clear S
 obtain ⟨b0, a1, a5, S⟩ := S0.freezeM
 clear S0
 replace h0 := h0.le a1
 refine Qk (Qm E S Y Y Y (GY a5) lerf ?_)
 clear E a S; rintro a b1 w b2 a2 a6 S E
 replace h0 := h0.le a2
 refine Qk (Qm E S Y Y Y (VP h0 a6 (by (omega))) lerf ?_)
 clear E a S; rintro a b3 w a7 a8 a9 S E
 refine Qj E Y ?_
 clear E a; intro a E
 refine Jj ?_
 exact Qa E Tryz.results293 Y ⟨_, Y, a7, (a0.trans (a1.trans (a2.trans a8))), (Jy a9 (by (simp only [Yd]))), S⟩
theorem qV {M : Hp} {v0 v1 : Value} {l0 l1 : List Int} (h0 : Qy M v0 l0) (h1 : Qy M v1 l1) (hb : l0.length ≤ 1000000000000) :
  Pu Tryz.prog (.func (.func 212) #[] #[]) M [v0, v1] (fun r M' => Qy M' r (VE (fun x => decide (x ∈ l1)) l0)) := by
 refine Qd Tryz.func212 Y Tryz.ntmps212 Y Tryz.call212 ?_
 intro a w M1 H hM1 S E
 replace h0 := h0.le hM1
 replace h1 := h1.le hM1
 have b0 := h0.bound
 have b1 := h1.bound
 have hw1 := GF (fun x => decide (x ∈ l1)) l0
 refine Qs (Qj E Y fun _ B => QI (Qn B Y ?_))
 clear E a B; intro a E
 refine Qk (Qm E S Y Y Y (QG h0) lerf ?_)
 clear E a S; rintro a a7 w a8 a0 a1 S E
 replace h1 := h1.le a0
 refine Qn E Y ?_
 clear E a; intro a E
 refine Qk (Qm E S Y Y Y (it_TrimLast a1 h1 (by (omega))) lerf ?_)
 clear E a S; rintro a a9 w b2 a2 a3 S E
 refine Qk (Qm E S Y Y Y (QJ a3 (by omega)) lerf ?_)
 clear E a S; rintro a b3 w a4 a5 a6 S E
 refine Qj E Y ?_
 clear E a; intro a E
 refine Jj ?_
 exact Qa E Tryz.results212 Y ⟨_, Y, a4, (a0.trans (a2.trans a5)), a6, S⟩
theorem it_Trim {M : Hp} {v0 : Value} {l0 : List Int} (h0 : Jh Tryz.prog v0 M (QB) l0){v1 : Value} {l1 : List Int} (h1 : Qy M v1 l1) (hb : l0.length ≤ 1000000000000) :
  Pu Tryz.prog (.func (.func 294) #[] #[]) M [v0, v1] (fun r M' => Jh Tryz.prog r M' QB (VE (fun x => decide (x ∈ l1)) ((l0).dropWhile (fun x => decide (x ∈ l1))))) := by
 refine Qd Tryz.func294 Y Tryz.ntmps294 Y Tryz.call294 ?_
 intro a w M1 H hM1 S E
 replace h0 := h0.le hM1
 replace h1 := h1.le hM1
 have hwl := vv (fun x => decide (x ∈ Qw l1)) l0
 refine Qs (Qj E Y fun _ B => QI (Qn B Y ?_))
 clear E a B; intro a E
 refine Qk (VF (p := []) E S Y Y Y (ZE h1) lerf ?_)
 clear E a S; rintro a _ w a5 _ a1 ⟨a6, rfl, rfl⟩ S E
 replace S : St w a5 (Zg a6 (Qw l1) :: _) := S
 replace h0 := h0.le a1
 have S0 := S; clear S
 obtain ⟨b2, a2, a7, S⟩ := S0.freezeM
 clear S0
 replace h0 := h0.le a2
 refine Qk (Qm E S Y Y Y (GY a7) lerf ?_)
 clear E a S; rintro a b3 w b4 a3 a0 S E
 replace h0 := h0.le a3
 refine Qj E Y fun _ B => QI (QD 2 B Y ?_)
 clear E a B; intro a E
 refine Qk (Qm E S Y Y Y (Wu h0 a0) lerf ?_)
 clear E a S; rintro a b5 w b6 a4 a8 S E
 replace a0 := a0.le a4
 refine Qn E Y ?_
 clear E a; intro a E
 refine Qk (Qm E S Y Y Y (VP a8 a0 (by (omega))) lerf ?_)
 clear E a S; rintro a b7 w a9 b0 b1 S E
 refine Qj E Y ?_
 clear E a; intro a E
 refine Jj ?_
 exact Qa E Tryz.results294 Y ⟨_, Y, a9, (a1.trans (a2.trans (a3.trans (a4.trans b0)))), (Jy b1 (by (simp only [Yd]))), S⟩
theorem impl_TrimSeq {M : Hp} {v0 v1 : Value} {l0 l1 : List Int} (h0 : Qy M v0 l0) (h1 : Qy M v1 l1) (hb : l0.length ≤ 1000000000000) :
  Pu Tryz.prog (.func (.func 213) #[] #[]) M [v0, v1] (fun r M' => Qy M' r (VE (fun x => decide (x ∈ l1)) ((l0).dropWhile (fun x => decide (x ∈ l1))))) := by
 refine Qd Tryz.func213 Y Tryz.ntmps213 Y Tryz.call213 ?_
 intro a w M1 H hM1 S E
 replace h0 := h0.le hM1
 replace h1 := h1.le hM1
 have b0 := h0.bound
 have b1 := h1.bound
 have hw1 := vv (fun x => decide (x ∈ l1)) l0; have hw2 := GF (fun x => decide (x ∈ l1)) (l0.dropWhile (fun x => decide (x ∈ l1)))
 refine Qs (Qj E Y fun _ B => QI (Qn B Y ?_))
 clear E a B; intro a E
 refine Qk (Qm E S Y Y Y (QG h0) lerf ?_)
 clear E a S; rintro a a7 w a8 a0 a1 S E
 replace h1 := h1.le a0
 refine Qn E Y ?_
 clear E a; intro a E
 refine Qk (Qm E S Y Y Y (it_Trim a1 h1 (by (omega))) lerf ?_)
 clear E a S; rintro a a9 w b2 a2 a3 S E
 refine Qk (Qm E S Y Y Y (QJ a3 (by omega)) lerf ?_)
 clear E a S; rintro a b3 w a4 a5 a6 S E
 refine Qj E Y ?_
 clear E a; intro a E
 refine Jj ?_
 exact Qa E Tryz.results213 Y ⟨_, Y, a4, (a0.trans (a2.trans a5)), a6, S⟩
theorem yN {M : Hp} {v1 : Value} {l1 : List Int} {v2 : Value} {l2 : List Int} (h2 : Qy M v2 l2) (g2 : 0 < l2.length) (hb : l1.length ≤ 1000000000000) {bx1 bx2 bx3 : Nat} (hbx1 : M bx1 = some (.cells #[v1] 62)) (h1 : Jh Tryz.prog v1 M QB l1) (hbx2 : M bx2 = some (.cells #[v2] 22)) (hbx3 : M bx3 = some (.cells #[.int .i64 ((l2.length : Nat) : Int)] 3)) :
  Jh Tryz.prog (.func (.func 324) #[] #[.pointer (some ⟨bx1, 0, none⟩), .pointer (some ⟨bx2, 0, none⟩), .pointer (some ⟨bx3, 0, none⟩)]) M (QB) (tpR l2 l1) := by
 refine Jw Tryz.func324 Y Tryz.ntmps324 Y Tryz.call324 ?_
 intro y J X a w M1 c H hJM hM1 hY hJ S E
 replace hbx1 := hM1.2 _ _ hbx1
 replace hbx2 := hM1.2 _ _ hbx2
 replace hbx3 := hM1.2 _ _ hbx3
 replace h1 := h1.le hM1
 replace h2 := h2.le hM1
 have b2 := h2.bound
 refine Qs ?_
 refine Qk (QA (cs := #[y]) E S Y Y (cells_one hY.1) ?_)
 clear E a S; rintro a w b3 E S
 obtain ⟨e4, a1, a0, S⟩ := S.freezeB
 replace hbx1 := a1.2 _ _ hbx1
 replace hbx2 := a1.2 _ _ hbx2
 replace hbx3 := a1.2 _ _ hbx3
 replace h1 := h1.le a1
 replace h2 := h2.le a1
 replace hJ := hJM _ _ _ _ a1 hJ
 refine QI ?_
 refine Qk (Ja (cs := #[.int .i64 0]) E S Y Tryz.zeroValue3 Y ?_)
 clear E a S; rintro a w a2 E S
 refine Zp (Qb E Y Tryz.isAgg62 S.imm (Qf hbx1) ?_)
 clear E a; intro a E
 refine ZH ?_
 replace S := S.front2.front1
 replace E := E.keep (l' := [(2, .pointer (some ⟨bx2, 0, none⟩)), (3, .pointer (some ⟨bx3, 0, none⟩)), (4, .pointer (some ⟨b3, 0, none⟩)), (5, .pointer (some ⟨a2, 0, none⟩)), (9, v1)]) ⟨Y, Y, Y, Y, Y, trivial⟩
 replace S := S.front1.front1
 replace S := S.blk_int (j := (Yq l2 (([] : List Int))).1) (by (rfl))
 have S0 := S; clear S; have S := St.pack [Jk a2 (.cells #[.int .i64 ((Yq l2 (([] : List Int))).1)] 3), c] S0; clear S0
 refine JK (RV := QB) (l := l1) (fun pre M c => ∃ (c0 : Qr), c = Yf [Jk a2 (.cells #[.int .i64 ((Yq l2 (pre)).1)] 3), c0] ∧ (J ((Yq l2 (pre)).2) M c0)) (fun cd pre M c => cd = .ret ∧ ∃ z, z <+: (tpR l2 l1) ∧ X z M c) E S Y h1 lerf (fun _ _ _ h => by rw [h]; rfl) (by decide) (by rintro _ M M' c hM ⟨c0, rfl, f0⟩; exact ⟨_, rfl, hJM _ _ _ _ hM f0⟩) ⟨_, rfl, Ju hJ (by (rfl))⟩ ?_ ?_ ?_
 clear E S
 ·rintro lb_5 rec_6 pre x _ a w b9 _ G a4 c8 rfl ⟨c0, rfl, f0⟩ E S
  replace E : Env a 51 [] [(10, .int .i64 x), (2, .pointer (some ⟨bx2, 0, none⟩)), (3, .pointer (some ⟨bx3, 0, none⟩)), (4, .pointer (some ⟨b3, 0, none⟩)), (5, .pointer (some ⟨a2, 0, none⟩)), (9, v1)] := E
  replace S := S.swap.unpack2
  have hq0 := Js c8
  replace hbx2 := a4.2 _ _ hbx2
  replace hbx3 := a4.2 _ _ hbx3
  replace h2 := h2.le a4
  replace a0 := a4.2 _ _ a0
  have hti := tpF_lt g2 pre
  refine Qh (Qj E Y ?_)
  clear E a; intro a E
  refine Qz ?_
  replace S := S.front2
  refine rb S ?_
  clear S; intro w S
  refine QW (UK (QH E Y (Tryz.isAgg3 _) (Qo (S.mem (.tail _ (.head _)))) fun _ B => Wc B Y Y ?_))
  clear E a B; intro a E
  refine Qz ?_
  refine Ql E Y (fun c9 => ?_) (fun c9 => ?_)
  ·refine UK (Qn E Y fun _ B => Qb B Y Tryz.isAgg22 S.imm (Qf hbx2) fun _ D => QH D Y (Tryz.isAgg3 _) (Qo (S.mem (.tail _ (.head _)))) ?_)
   clear E a B D; intro a E
   obtain ⟨e5, d0⟩ : ∃ x, (l2)[(Yq l2 pre).1.toNat]? = some x := ⟨_, List.getElem?_eq_getElem (by omega)⟩
   obtain ⟨e6, d1, d2⟩ := h2.at d0
   refine QZ E Y Y QE d1 (by omega) fun _ B => Qb B Y Tryz.isAgg3 S.imm d2 fun _ D => QK D Y Y ?_
   clear E a B D; intro a E
   refine Qz ?_
   refine Ql E Y (fun d3 => ?_) (fun d3 => ?_)
   ·refine Qs (QH E Y (Tryz.isAgg3 _) (Qo (S.mem (.tail _ (.head _)))) fun _ B => Qp (m := ((Yq l2 (pre)).1) + 1) B Y Y fun _ D => Qb D Y Tryz.isAgg3 S.imm (Qf hbx3) fun _ F => vu F Y Y (by omega) ?_)
    clear E a B D F; intro a E
    replace S := S.front1
    refine Jm (QS E S Y Y (Tryz.sizeOf3 _) Y ?_)
    clear E a S; rintro a w E S
    refine Qz (JO (Ul (Ul (zx ?_))))
    replace S := S.front2.front1.front1.front1
    replace S := S.blk_int (j := (Yq l2 ((pre ++ [x]))).1) (by ((rw [tpF_yes (by assumption) (by first | assumption | (subst_vars; assumption))]; done)))
    have S0 := S; clear S; have S := (St.pack [Jk a2 (.cells #[.int .i64 ((Yq l2 ((pre ++ [x]))).1)] 3), c0] S0).swap; clear S0
    exact ⟨b9, _, lerf, ⟨_, Y, Ju f0 (by ((rw [tpF_yes (by assumption) (by first | assumption | (subst_vars; assumption))]; done)))⟩, S⟩
   ·refine je (QH E Y (Tryz.isAgg3 _) (Qo (S.mem (.tail _ (.head _)))) fun _ B => Qn B Y ?_)
    clear E a B; intro a E
    refine ZH ?_
    refine QN (γ := Nat) (fun (k : Nat) a w => ∃ (a9 : Hp) (cL1 : Qr), Hp.le b9 a9 ∧ St w a9 (lp lb_5 rec_6 .busy none :: Jk a2 (.cells #[.int .i64 ((Yq l2 (pre)).1)] 3) :: cL1 :: G) ∧ Env a 51 [] [(2, .pointer (some ⟨bx2, 0, none⟩)), (4, .pointer (some ⟨b3, 0, none⟩)), (5, .pointer (some ⟨a2, 0, none⟩)), (6, .int .i64 x), (23, .int .i64 ((Yq l2 (pre)).1)), (24, .int .i64 ((k : Nat) : Int))] ∧ (k ≤ (Yq l2 pre).1.toNat) ∧ J ((Yq l2 pre).2 ++ l2.take k) a9 cL1) (fun k => (Yq l2 pre).1.toNat - k) 0 ⟨b9, _, lerf, S, E.keep ⟨Y, Y, Y, Y, Y, Y, trivial⟩, by (omega), Ju f0 (by (simp))⟩ ?_
    try clear E
    try clear S
    try clear a
    try clear w
    rintro k a w ⟨a9, cL1, a3, S, E, e7, f0⟩
    replace hbx2 := a3.2 _ _ hbx2
    replace h2 := h2.le a3
    replace a0 := a3.2 _ _ a0
    refine Qs (Jc E Y Y ?_)
    clear E a; intro a E
    refine ZJ ?_
    refine Ql E Y (fun d4 => ?_) (fun d4 => ?_)
    ·refine YZ (QD 2 E Y ?_)
     clear E a; intro a E
     refine ZJ ?_
     have hbx2k14 := hbx2
     have hb_1k14 := a0
     replace S := S.mono_heap (w' := World.drew _) rfl
     refine Jb (C := fun x w => agree a9 w) (bf := (fun i => [])) [0, 1, 2, 3, 4, 6] [0, 1, 2, 3, 4, 5, 6] Tryz.mixed (by kernel_rfl) (fun x hq => S.imm) ?_
     refine QU E Y (fun w hC => (QQ E Y Tryz.isAgg95 hC (Qf hb_1k14))) fun _ B => QU B Y (fun w hC => (QQ B Y Tryz.isAgg22 hC (Qf hbx2k14))) fun _ D => QU D Y (fun w hC => (QL D Y)) ?_
     clear E a B D; intro a E
     obtain ⟨c1, d5⟩ : ∃ x, (l2)[k]? = some x := ⟨_, List.getElem?_eq_getElem (by omega)⟩
     obtain ⟨e8, d6, d7⟩ := h2.at d5
     refine QU E Y (fun w hC => (ZO E Y Y QE d6 Y)) fun _ B => QU B Y (fun w hC => (QQ B Y Tryz.isAgg3 hC d7)) ?_
     clear E a B; intro a E
     replace S := S.front2
     refine ZP Y Y Y (JC (x := c1) E S Y Y Y hY (a1.trans (a4.trans a3)) (by (exact qz (by assumption) (by assumption) (by assumption) (by assumption) (by omega) (by assumption))) Y f0 ?_)
     clear E a S; rintro a w b4 c5 go_19 a6 f0 S E
     replace hbx2 := a6.2 _ _ hbx2
     replace h2 := h2.le a6
     replace a0 := a6.2 _ _ a0
     refine ⟨fun x hq hb => (Qu a6 S.imm), ?_⟩
     cases go_19
     ·replace f0 : X ((Yq l2 pre).2 ++ l2.take k ++ [c1]) b4 c5 := f0
      refine QU E Y (fun w hC => (YN E Y)) ?_
      clear E a; intro a E
      refine JI (JH ?_)
      refine JZ ?_
      refine QY E Y Y ?_
      refine QM (ZC (J_u (ZC (J_u (ZC ?_)))))
      replace S := S.front2.drop.front1
      exact ⟨b4, _, (a3.trans a6), ⟨Y, _, (by ((first | exact qz (by assumption) (by assumption) (by assumption) (by assumption) (by omega) (by assumption) | exact qy (by assumption) (by assumption) (by assumption) (by assumption) (by omega) | exact qx (by assumption) (by assumption) | exact qw (by omega) (by assumption)))), f0⟩, S⟩
     ·replace f0 : J ((Yq l2 pre).2 ++ l2.take k ++ [c1]) b4 c5 := f0
      refine QU E Y (fun w hC => (YN E Y)) ?_
      clear E a; intro a E
      refine JI (JH ?_)
      refine JZ ?_
      refine QF E Y Y ?_
      refine zu (Qp (m := ((k + 1 : Nat) : Int)) E Y Y fun _ B => Qn B Y ?_)
      clear E a B; intro a E
      refine Qz ?_
      replace S := S.front2.front2
      exact ⟨k + 1, ⟨b4, _, (a3.trans a6), S, E.keep ⟨Y, Y, Y, Y, Y, Y, trivial⟩, by (omega), Ju f0 (by (rw [List.append_assoc, YP (by assumption)]))⟩, by omega⟩
    ·refine JO (Ul (Ul (zx (JZ (Qh ?_)))))
     replace S := S.front1
     refine Jm (QS E S Y Y (Tryz.sizeOf3 _) Y ?_)
     clear E a S; rintro a w E S
     refine QI (Qb E Y Tryz.isAgg95 S.imm (Qf a0) fun _ B => Qn B Y ?_)
     clear E a B; intro a E
     replace S := S.front2
     refine Qk (JC (x := x) E S Y Y Y hY (a1.trans (a4.trans a3)) (by (exact qy (by assumption) (by assumption) (by assumption) (by assumption) (by omega))) Y f0 ?_)
     clear E a S; rintro a w b5 c2 go_22 b0 f0 S E
     replace hbx2 := b0.2 _ _ hbx2
     replace h2 := h2.le b0
     replace a0 := b0.2 _ _ a0
     cases go_22
     ·replace f0 : X ((Yq l2 pre).2 ++ l2.take k ++ [x]) b5 c2 := f0
      refine Ji E Y ?_
      clear E a; intro a E
      refine Qz ?_
      refine QY E Y Y ?_
      refine QM (ZC ?_)
      replace S := S.front1.drop.front1
      exact ⟨b5, _, (a3.trans b0), ⟨Y, _, (by ((first | exact qz (by assumption) (by assumption) (by assumption) (by assumption) (by omega) (by assumption) | exact qy (by assumption) (by assumption) (by assumption) (by assumption) (by omega) | exact qx (by assumption) (by assumption) | exact qw (by omega) (by assumption)))), f0⟩, S⟩
     ·replace f0 : J ((Yq l2 pre).2 ++ l2.take k ++ [x]) b5 c2 := f0
      refine Ji E Y ?_
      clear E a; intro a E
      refine Qz ?_
      refine QF E Y Y ?_
      refine Qx (ZK ?_)
      replace S := S.front1.front1.front1
      replace S := S.blk_int (j := (Yq l2 ((pre ++ [x]))).1) (by ((rw [tpF_no (by assumption) (by assumption) (by assumption)]; done)))
      have S0 := S; clear S; have S := (St.pack [Jk a2 (.cells #[.int .i64 ((Yq l2 ((pre ++ [x]))).1)] 3), c2] S0).swap; clear S0
      exact ⟨b5, _, (a3.trans b0), ⟨_, Y, Ju f0 (by ((rw [tpF_no (by assumption) (by assumption) (by assumption)]; first | done | (rw [show k = (Yq l2 pre).1.toNat by omega]))))⟩, S⟩
  ·refine VC (Qb E Y Tryz.isAgg95 S.imm (Qf a0) fun _ B => Qn B Y ?_)
   clear E a B; intro a E
   replace S := S.front2
   refine Qk (JC (x := x) E S Y Y Y hY (a1.trans a4) (by (exact qx (by assumption) (by assumption))) Y f0 ?_)
   clear E a S; rintro a w b6 c3 go_25 b1 f0 S E
   replace hbx2 := b1.2 _ _ hbx2
   replace h2 := h2.le b1
   replace a0 := b1.2 _ _ a0
   cases go_25
   ·replace f0 : X ((Yq l2 (pre)).2 ++ [x]) b6 c3 := f0
    refine Ji E Y ?_
    clear E a; intro a E
    refine Qz ?_
    refine QY E Y Y ?_
    refine QM (ZC ?_)
    replace S := S.front2.drop.front1
    exact ⟨b6, _, b1, ⟨Y, _, (by ((first | exact qz (by assumption) (by assumption) (by assumption) (by assumption) (by omega) (by assumption) | exact qy (by assumption) (by assumption) (by assumption) (by assumption) (by omega) | exact qx (by assumption) (by assumption) | exact qw (by omega) (by assumption)))), f0⟩, S⟩
   ·replace f0 : J ((Yq l2 (pre)).2 ++ [x]) b6 c3 := f0
    refine Ji E Y ?_
    clear E a; intro a E
    refine Qz ?_
    refine QF E Y Y ?_
    refine Qx (ZK ?_)
    replace S := S.front2.front1.front1
    replace S := S.blk_int (j := (Yq l2 ((pre ++ [x]))).1) (by ((rw [yn (by assumption)]; done)))
    have S0 := S; clear S; have S := (St.pack [Jk a2 (.cells #[.int .i64 ((Yq l2 ((pre ++ [x]))).1)] 3), c3] S0).swap; clear S0
    exact ⟨b6, _, b1, ⟨_, Y, Ju f0 (by ((rw [yn (by assumption)]; done)))⟩, S⟩
 ·rintro a w c6 _ D_27 a7 ⟨c0, rfl, f0⟩ S E
  replace S := S.unpack2
  replace hbx2 := a7.2 _ _ hbx2
  replace h2 := h2.le a7
  replace a0 := a7.2 _ _ a0
  refine ZK (JZ (Qs (QH E Y (Tryz.isAgg3 _) (Qo (S.mem (.head _))) fun _ B => Qn B Y ?_)))
  clear E a B; intro a E
  refine ZH ?_
  have hti := tpF_lt g2 l1
  refine QN (γ := Nat) (fun (k : Nat) a w => ∃ (a8 : Hp) (cL2 : Qr), Hp.le c6 a8 ∧ St w a8 (Jk a2 (.cells #[.int .i64 ((Yq l2 (l1)).1)] 3) :: cL2 :: zt (D_27 :: []) :: H) ∧ Env a 51 ((D_27 :: []).map mk) [(2, .pointer (some ⟨bx2, 0, none⟩)), (4, .pointer (some ⟨b3, 0, none⟩)), (39, .int .i64 ((Yq l2 (l1)).1)), (40, .int .i64 ((k : Nat) : Int))] ∧ (k ≤ (Yq l2 l1).1.toNat) ∧ J ((Yq l2 l1).2 ++ l2.take k) a8 cL2) (fun k => (Yq l2 l1).1.toNat - k) 0 ⟨c6, _, lerf, S, E.keep ⟨Y, Y, Y, Y, trivial⟩, by (omega), Ju f0 (by (simp))⟩ ?_
  try clear E
  try clear S
  try clear a
  try clear w
  rintro k a w ⟨a8, cL2, a5, S, E, e9, f0⟩
  replace hbx2 := a5.2 _ _ hbx2
  replace h2 := h2.le a5
  replace a0 := a5.2 _ _ a0
  refine Qs (Jc E Y Y ?_)
  clear E a; intro a E
  refine ZJ ?_
  refine Ql E Y (fun d8 => ?_) (fun d8 => ?_)
  ·refine YZ (QD 2 E Y ?_)
   clear E a; intro a E
   refine ZJ ?_
   have hbx2k29 := hbx2
   have hb_1k29 := a0
   replace S := S.mono_heap (w' := World.drew _) rfl
   refine Jb (C := fun x w => agree a8 w) (bf := (fun i => [])) [0, 1, 2, 3, 4, 6] [0, 1, 2, 3, 4, 5, 6] Tryz.mixed (by kernel_rfl) (fun x hq => S.imm) ?_
   refine QU E Y (fun w hC => (QQ E Y Tryz.isAgg95 hC (Qf hb_1k29))) fun _ B => QU B Y (fun w hC => (QQ B Y Tryz.isAgg22 hC (Qf hbx2k29))) fun _ D => QU D Y (fun w hC => (QL D Y)) ?_
   clear E a B D; intro a E
   obtain ⟨b7, d9⟩ : ∃ x, (l2)[k]? = some x := ⟨_, List.getElem?_eq_getElem (by omega)⟩
   obtain ⟨f1, e0, e1⟩ := h2.at d9
   refine QU E Y (fun w hC => (ZO E Y Y QE e0 Y)) fun _ B => QU B Y (fun w hC => (QQ B Y Tryz.isAgg3 hC e1)) ?_
   clear E a B; intro a E
   replace S := S.front1
   refine ZP Y Y Y (JC (x := b7) E S Y Y Y hY (a1.trans (a7.trans a5)) (by (exact qw (by omega) (by assumption))) Y f0 ?_)
   clear E a S; rintro a w b8 c7 go_34 c4 f0 S E
   refine ⟨fun x hq hb => (Qu c4 S.imm), ?_⟩
   cases go_34
   ·replace f0 : X ((Yq l2 l1).2 ++ l2.take k ++ [b7]) b8 c7 := f0
    refine QU E Y (fun w hC => (YN E Y)) ?_
    clear E a; intro a E
    refine JI (JH ?_)
    refine JZ ?_
    refine QY E Y Y ?_
    refine QM (ZC (J_u (ZC ?_)))
    replace S := S.front1.drop.front1
    exact QR E S Tryz.results324 (fun w S => ⟨_, Y, b8, _, (a1.trans (a7.trans (a5.trans c4))), .inr ⟨((Yq l2 l1).2 ++ l2.take k ++ [b7]), (by ((first | exact qz (by assumption) (by assumption) (by assumption) (by assumption) (by omega) (by assumption) | exact qy (by assumption) (by assumption) (by assumption) (by assumption) (by omega) | exact qx (by assumption) (by assumption) | exact qw (by omega) (by assumption)))), f0⟩, S⟩)
   ·replace f0 : J ((Yq l2 l1).2 ++ l2.take k ++ [b7]) b8 c7 := f0
    refine QU E Y (fun w hC => (YN E Y)) ?_
    clear E a; intro a E
    refine JI (JH ?_)
    refine JZ ?_
    refine QF E Y Y ?_
    refine zu (Qp (m := ((k + 1 : Nat) : Int)) E Y Y fun _ B => Qn B Y ?_)
    clear E a B; intro a E
    refine Qz ?_
    replace S := S.front2.front1.front2
    exact ⟨k + 1, ⟨b8, _, (a5.trans c4), S, E.keep ⟨Y, Y, Y, Y, trivial⟩, by (omega), Ju f0 (by (rw [List.append_assoc, YP (by assumption)]))⟩, by omega⟩
  ·refine JO (Ul (Ul (zx (Yh ?_))))
   replace S := S.drop.front1
   have hpre : (Yq l2 l1).2 ++ l2.take k = tpR l2 l1 := by (exact tp_end (by omega))
   rw [hpre] at f0
   exact QR E S Tryz.results324 (fun w S => ⟨_, Y, a8, _, (a1.trans (a7.trans a5)), .inl f0, S⟩)
 ·rintro a w e2 c_ D_36 f2 _ e3 f3 ⟨rfl, z_, hz_, f0⟩ S E
  refine QM (ZC (UA ?_))
  replace S := S.front1
  exact QR E S Tryz.results324 (fun w S => ⟨_, Y, e2, _, (a1.trans e3), .inr ⟨z_, (by assumption), f0⟩, S⟩)
theorem it_TrimPrefix {M : Hp} {v0 : Value} {l0 : List Int} (h0 : Jh Tryz.prog v0 M (QB) l0){v1 : Value} {l1 : List Int} (h1 : Qy M v1 l1) (hb : l0.length ≤ 1000000000000) :
  Pu Tryz.prog (.func (.func 295) #[] #[]) M [v0, v1] (fun r M' => Jh Tryz.prog r M' QB (Yc l1 l0)) := by
 refine Qd Tryz.func295 Y Tryz.ntmps295 Y Tryz.call295 ?_
 intro a w M1 H hM1 S E
 replace h0 := h0.le hM1
 replace h1 := h1.le hM1
 refine Qs ?_
 refine Qk (QA (cs := #[v0]) E S Y Y (cells_one h0.1) ?_)
 clear E a S; rintro a w a9 E S
 obtain ⟨b0, a3, a0, S⟩ := S.freezeB
 replace h0 := h0.le a3
 replace h1 := h1.le a3
 refine Qk (QA (cs := #[v1]) E S Y Y (cells_one (QX.one' h1)) ?_)
 clear E a S; rintro a w b1 E S
 obtain ⟨a5, a1, a4, S⟩ := S.freezeB
 replace h0 := h0.le a1
 replace h1 := h1.le a1
 replace a0 := a1.2 _ _ a0
 refine Qj E Y fun _ B => QI (Qb B Y Tryz.isAgg22 S.imm (Qf a4) fun _ C => Qt C Y QE h1.len ?_)
 clear E a B C; intro a E
 refine Qk (Ja (cs := #[.int .i64 0]) E S Y Tryz.zeroValue3 Y ?_)
 clear E a S; rintro a w b2 E S
 refine Jm (QS E S Y Y (Tryz.sizeOf3 _) Y ?_)
 clear E a S; rintro a w E S
 refine Zp (QH E Y (Tryz.isAgg3 _) (Qo (S.mem (.head _))) fun _ B => QK B Y Y ?_)
 clear E a B; intro a E
 refine Qz ?_
 refine Ql E Y (fun a6 => ?_) (fun a6 => ?_)
 ·refine Qs (Qb E Y Tryz.isAgg62 S.imm (Qf a0) fun _ B => Qj B Y ?_)
  clear E a B; intro a E
  refine UJ ?_
  exact Qa E Tryz.results295 Y ⟨_, Y, a5, (a3.trans a1), (Jy h0 (by (exact (Gr (by omega)).symm))), S.drop⟩
 ·refine VC ?_
  have S0 := S; clear S
  obtain ⟨a7, a2, a8, S⟩ := S0.freezeB
  clear S0
  replace h0 := h0.le a2
  replace h1 := h1.le a2
  replace a0 := a2.2 _ _ a0
  replace a4 := a2.2 _ _ a4
  refine Qv E Y Y fun _ B => Qj B Y ?_
  clear E a B; intro a E
  refine Jj ?_
  exact Qa E Tryz.results295 Y ⟨_, Y, a7, (a3.trans (a1.trans a2)), (Jy (yN h1 (by omega) (by (omega)) a0 h0 a4 a8) (by (exact tpR_trimP (by omega) _))), S⟩
theorem qe {M : Hp} {v0 v1 : Value} {l0 l1 : List Int} (h0 : Qy M v0 l0) (h1 : Qy M v1 l1) (hb : l0.length ≤ 1000000000000) :
  Pu Tryz.prog (.func (.func 214) #[] #[]) M [v0, v1] (fun r M' => Qy M' r (Yc l1 l0)) := by
 refine Qd Tryz.func214 Y Tryz.ntmps214 Y Tryz.call214 ?_
 intro a w M1 H hM1 S E
 replace h0 := h0.le hM1
 replace h1 := h1.le hM1
 have b0 := h0.bound
 have b1 := h1.bound
 have htl := trimP_le l1 l0
 refine Qs (Qj E Y fun _ B => QI (Qn B Y ?_))
 clear E a B; intro a E
 refine Qk (Qm E S Y Y Y (QG h0) lerf ?_)
 clear E a S; rintro a a7 w a8 a0 a1 S E
 replace h1 := h1.le a0
 refine Qn E Y ?_
 clear E a; intro a E
 refine Qk (Qm E S Y Y Y (it_TrimPrefix a1 h1 (by (omega))) lerf ?_)
 clear E a S; rintro a a9 w b2 a2 a3 S E
 refine Qk (Qm E S Y Y Y (QJ a3 (by omega)) lerf ?_)
 clear E a S; rintro a b3 w a4 a5 a6 S E
 refine Qj E Y ?_
 clear E a; intro a E
 refine Jj ?_
 exact Qa E Tryz.results214 Y ⟨_, Y, a4, (a0.trans (a2.trans a5)), a6, S⟩
end Go.Proofs.YtgceicmfefpngaaGreat.wFnScriptOwn
