import Derived.Test.YtgceicmfefpngaaGreatSlT
set_option linter.unusedVariables false
namespace Go.Sl
open Go Go.RowKit
variable {P : Program} {α : Type}
theorem St.reSt {w : World} {M : Hp} {H : List Qr} {α : Type} {C : α → Qr} {s s' : α} (S : St w M (C s :: H)) (h : s = s') : St w M (C s' :: H) := h ▸ S
theorem St.as {w : World} {M : Hp} {H : List Qr} {p q : Qr} (S : St w M (p :: H)) (h : p = q) : St w M (q :: H) := h ▸ S
def cellI (b : Nat) (t : TypeId) (s : Int) : Qr := Jk b (.cells #[.int .i64 s] t)
def StF1I (P : Program) (fv : Value) (M : Hp) (C : Int → Qr) (f g : Int → Int → Int) : Prop := fv.oneCell' = true ∧ ∀ s x : Int, Sp P fv M [.int .i64 x] [C s] (fun r _ C' => r = .int .i64 (f s x) ∧ C' = [C (g s x)])
def StF1B (P : Program) (fv : Value) (M : Hp) (C : Int → Qr) (f : Int → Int → Bool) (g : Int → Int → Int) : Prop := fv.oneCell' = true ∧ ∀ s x : Int, Sp P fv M [.int .i64 x] [C s] (fun r _ C' => r = .bool (f s x) ∧ C' = [C (g s x)])
def StF2I (P : Program) (fv : Value) (M : Hp) (C : Int → Qr) (f g : Int → Int → Int) : Prop := fv.oneCell' = true ∧ ∀ s x i : Int, Sp P fv M [.int .i64 x, .int .i64 i] [C s] (fun r _ C' => r = .int .i64 (f s x) ∧ C' = [C (g s x)])
theorem StF1I.le {fv : Value} {M M' : Hp} {C : Int → Qr} {f g : Int → Int → Int} (h : StF1I P fv M C f g) (hM : Hp.le M M') : StF1I P fv M' C f g := ⟨h.1, fun s x => (h.2 s x).le hM⟩
theorem StF1B.le {fv : Value} {M M' : Hp} {C : Int → Qr} {f : Int → Int → Bool} {g : Int → Int → Int} (h : StF1B P fv M C f g) (hM : Hp.le M M') : StF1B P fv M' C f g := ⟨h.1, fun s x => (h.2 s x).le hM⟩
theorem StF2I.le {fv : Value} {M M' : Hp} {C : Int → Qr} {f g : Int → Int → Int} (h : StF2I P fv M C f g) (hM : Hp.le M M') : StF2I P fv M' C f g := ⟨h.1, fun s x i => (h.2 s x i).le hM⟩
def SeqO (P : Program) (sv : Value) (M0 : Hp) (RV : Hp → List Value → α → Prop) (l : List α) (C : Qr) : Prop :=
  sv.oneCell' = true ∧ ∀ (y : Value) (J X : List α → Hp → Qr → Prop), JM J → ∀ M1, Hp.le M0 M1 → VX P y M1 RV l J X → ∀ w M c H, Hp.le M1 M → J [] M c → St w M (C :: c :: H) →
    VD P sv [y] w (fun _ w' => ∃ M' c', Hp.le M M' ∧ (J l M' c' ∨ ∃ p, p <+: l ∧ X p M' c') ∧ St w' M' (c' :: H))
theorem SeqO.le {sv : Value} {M0 M1 : Hp} {RV : Hp → List Value → α → Prop} {l : List α} {C : Qr} (h : SeqO P sv M0 RV l C) (hM : Hp.le M0 M1) : SeqO P sv M1 RV l C :=
  ⟨h.1, fun y J X hJ M2 h2 => h.2 y J X hJ M2 (hM.trans h2)⟩
def SeqF (P : Program) (sv : Value) (M0 : Hp) (F : Int → List Int) (C : Int → Qr) : Prop := ∀ s, SeqO P sv M0 QB (F s) (C s)
theorem SeqF.le {sv : Value} {M0 M1 : Hp} {F : Int → List Int} {C : Int → Qr} (h : SeqF P sv M0 F C) (hM : Hp.le M0 M1) : SeqF P sv M1 F C := fun s => (h s).le hM
theorem SeqO_enter {g : FuncId} {fn : Func} {cd : Code} {cap : Array Value} {M0 : Hp} {RV : Hp → List Value → α → Prop} {l : List α} {C : Qr}
    (hf : P.funcs[g]? = some fn) (hb : fn.body = some cd) {m : Nat} (hm : fn.ntmps = m) (hl : Nat.ble (1 + cap.toList.length) m = true)
    (hc : ∀ args w, (callFunc g args).run P w = .ok (.enter g args) w)
    (h : ∀ y J X a w M c H, JM J → Hp.le M0 M → VX P y M RV l J X → J [] M c → St w M (zt [] :: C :: c :: H) → Env a m (([] : List Nat).map mk) (Gc (y :: cap.toList) 0) →
      WP none P cd (Yu P fn (SQ l J X M H)) a w) : SeqO P (.func (.func g) #[] cap) M0 RV l C := by
  refine ⟨rfl, ?_⟩
  intro y J X hJ M1 h1 hY w M c H h2 hJ0 S
  refine CallF.call ⟨g, cap, rfl, hc, Vo hf hb hm (by simpa [Nat.add_comm] using hl) fun a E => ?_⟩
  exact h y J X a w M c H hJ (h1.trans h2) (hY.le h2) hJ0 S.empty E
theorem X_seqO {r : Option Nat} {a : Act} {w : World} {n d : Nat} {ds : List Deferred} {l : List (Nat × Value)} {ty : TypeId} {ats : Array TypeId} {pos : String} {af : Array Edge} {gd : Option (Nat × Bool)} {f : Operand} {as : Array Operand} {next : Act → World → Prop} {Q : Exit → Act → World → Prop}
    {M M0 M1 : Hp} {H : List Qr} {c C : Qr} {y sv : Value} {RV : Hp → List Value → α → Prop} {xs : List α} {J X : List α → Hp → Qr → Prop}
    (E : Env a n ds l) (S : St w M (C :: c :: H)) (hd : Nat.blt d n = true) (hf : Jq l f = some sv) (ha : Wt l as.toList = some [y]) (hs : SeqO P sv M0 RV xs C) (h0 : Hp.le M0 M) (hJ : JM J)
    (hY : VX P y M1 RV xs J X) (hM : Hp.le M1 M) (h : J [] M c)
    (k : ∀ a v w' M' c', Hp.le M M' → (J xs M' c' ∨ ∃ p, p <+: xs ∧ X p M' c') → St w' M' (c' :: H) → Env a n ds ((d, v) :: l) → next a w') :
    (⟨some d, .call ⟨.value f, as, ats⟩, ty, pos, af, gd⟩ : Oper).wpIn (Fw r) 0 P a w next Q :=
  X_call E hd hf ha (hs.2 y J X hJ M h0 (hY.le hM) w M c H (Hp.le.refl _) h S) fun a v w' ⟨M', c', h1, h2, h3⟩ E => k a v w' M' c' h1 h2 h3 E
theorem X_st {r : Option Nat} {a : Act} {w : World} {n d : Nat} {ds : List Deferred} {l : List (Nat × Value)} {ty : TypeId} {ats : Array TypeId} {pos : String} {af : Array Edge} {gd : Option (Nat × Bool)} {f : Operand} {as : Array Operand} {next : Act → World → Prop} {Q : Exit → Act → World → Prop}
    {M M0 : Hp} {H : List Qr} {p p' : Qr} {fv u : Value} {args : List Value}
    (E : Env a n ds l) (S : St w M (p :: H)) (hd : Nat.blt d n = true) (hf : Jq l f = some fv) (ha : Wt l as.toList = some args) (C : Sp P fv M0 args [p] (fun r _ C' => r = u ∧ C' = [p'])) (hM : Hp.le M0 M)
    (k : ∀ a w' M', Hp.le M M' → St w' M' (p' :: H) → Env a n ds ((d, u) :: l) → next a w') : (⟨some d, .call ⟨.value f, as, ats⟩, ty, pos, af, gd⟩ : Oper).wpIn (Fw r) 0 P a w next Q :=
  VF (p := [p]) E S hd hf ha C hM fun a v w' M' C' h1 ⟨h2, h3⟩ S E => by subst h2; subst h3; exact k a w' M' h1 S E
end Go.Sl
