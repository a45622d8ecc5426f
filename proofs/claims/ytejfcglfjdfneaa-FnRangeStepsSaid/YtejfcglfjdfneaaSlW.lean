import Derived.Test.YtejfcglfjdfneaaSlT
/-! Functions that keep a state in a cell of their maker: the state is a number, the chunk C s is where it lies; sequences that are told once, and use such a chunk up. -/
set_option linter.unusedVariables false
namespace Go.Sl
open Go Go.RowKit
variable {P : Program} {α : Type}
theorem St.reSt {w : World} {M : Hp} {H : List HProp} {α : Type} {C : α → HProp} {s s' : α} (S : St w M (C s :: H)) (h : s = s') : St w M (C s' :: H) := h ▸ S
theorem St.as {w : World} {M : Hp} {H : List HProp} {p q : HProp} (S : St w M (p :: H)) (h : p = q) : St w M (q :: H) := h ▸ S
/-- a cell with a number, as a state -/
def cellI (b : Nat) (t : TypeId) (s : Int) : HProp := blk b (.cells #[.int .i64 s] t)
def StF1I (P : Program) (fv : Value) (M : Hp) (C : Int → HProp) (f g : Int → Int → Int) : Prop := fv.oneCell' = true ∧ ∀ s x : Int, Sp P fv M [.int .i64 x] [C s] (fun r _ C' => r = .int .i64 (f s x) ∧ C' = [C (g s x)])
def StF1B (P : Program) (fv : Value) (M : Hp) (C : Int → HProp) (f : Int → Int → Bool) (g : Int → Int → Int) : Prop := fv.oneCell' = true ∧ ∀ s x : Int, Sp P fv M [.int .i64 x] [C s] (fun r _ C' => r = .bool (f s x) ∧ C' = [C (g s x)])
def StF2I (P : Program) (fv : Value) (M : Hp) (C : Int → HProp) (f g : Int → Int → Int) : Prop := fv.oneCell' = true ∧ ∀ s x i : Int, Sp P fv M [.int .i64 x, .int .i64 i] [C s] (fun r _ C' => r = .int .i64 (f s x) ∧ C' = [C (g s x)])
theorem StF1I.le {fv : Value} {M M' : Hp} {C : Int → HProp} {f g : Int → Int → Int} (h : StF1I P fv M C f g) (hM : Hp.le M M') : StF1I P fv M' C f g := ⟨h.1, fun s x => (h.2 s x).le hM⟩
theorem StF1B.le {fv : Value} {M M' : Hp} {C : Int → HProp} {f : Int → Int → Bool} {g : Int → Int → Int} (h : StF1B P fv M C f g) (hM : Hp.le M M') : StF1B P fv M' C f g := ⟨h.1, fun s x => (h.2 s x).le hM⟩
theorem StF2I.le {fv : Value} {M M' : Hp} {C : Int → HProp} {f g : Int → Int → Int} (h : StF2I P fv M C f g) (hM : Hp.le M M') : StF2I P fv M' C f g := ⟨h.1, fun s x i => (h.2 s x i).le hM⟩
/-- sv hands the items of l to yield, once: it uses the chunk C up -/
def SeqO (P : Program) (sv : Value) (M0 : Hp) (RV : Hp → List Value → α → Prop) (l : List α) (C : HProp) : Prop :=
  sv.oneCell' = true ∧ ∀ (y : Value) (J X : List α → Hp → HProp → Prop), JM J → ∀ M1, Hp.le M0 M1 → YieldOK P y M1 RV l J X → ∀ w M c H, Hp.le M1 M → J [] M c → St w M (C :: c :: H) →
    CallV P sv [y] w (fun _ w' => ∃ M' c', Hp.le M M' ∧ (J l M' c' ∨ ∃ p, p <+: l ∧ X p M' c') ∧ St w' M' (c' :: H))
theorem SeqO.le {sv : Value} {M0 M1 : Hp} {RV : Hp → List Value → α → Prop} {l : List α} {C : HProp} (h : SeqO P sv M0 RV l C) (hM : Hp.le M0 M1) : SeqO P sv M1 RV l C :=
  ⟨h.1, fun y J X hJ M2 h2 => h.2 y J X hJ M2 (hM.trans h2)⟩
/-- a maker of such sequences, whatever the state -/
def SeqF (P : Program) (sv : Value) (M0 : Hp) (F : Int → List Int) (C : Int → HProp) : Prop := ∀ s, SeqO P sv M0 RInt (F s) (C s)
theorem SeqF.le {sv : Value} {M0 M1 : Hp} {F : Int → List Int} {C : Int → HProp} (h : SeqF P sv M0 F C) (hM : Hp.le M0 M1) : SeqF P sv M1 F C := fun s => (h s).le hM
theorem SeqO_enter {g : FuncId} {fn : Func} {cd : Code} {cap : Array Value} {M0 : Hp} {RV : Hp → List Value → α → Prop} {l : List α} {C : HProp}
    (hf : P.funcs[g]? = some fn) (hb : fn.body = some cd) {m : Nat} (hm : fn.ntmps = m) (hl : Nat.ble (1 + cap.toList.length) m = true)
    (hc : ∀ args w, (callFunc g args).run P w = .ok (.enter g args) w)
    (h : ∀ y J X a w M c H, JM J → Hp.le M0 M → YieldOK P y M RV l J X → J [] M c → St w M (mks [] :: C :: c :: H) → Env a m (([] : List Nat).map mk) (initL (y :: cap.toList) 0) →
      WP none P cd (FPost P fn (SQ l J X M H)) a w) : SeqO P (.func (.func g) #[] cap) M0 RV l C := by
  refine ⟨rfl, ?_⟩
  intro y J X hJ M1 h1 hY w M c H h2 hJ0 S
  refine CallF.call ⟨g, cap, rfl, hc, Calls_enter hf hb hm (by simpa [Nat.add_comm] using hl) fun a E => ?_⟩
  exact h y J X a w M c H hJ (h1.trans h2) (hY.le h2) hJ0 S.empty E
/-- such a sequence is handed one's own yield -/
theorem X_seqO {r : Option Nat} {a : Act} {w : World} {n d : Nat} {ds : List Deferred} {l : List (Nat × Value)} {ty : TypeId} {ats : Array TypeId} {pos : String} {af : Array Edge} {gd : Option (Nat × Bool)} {f : Operand} {as : Array Operand} {next : Act → World → Prop} {Q : Exit → Act → World → Prop}
    {M M0 M1 : Hp} {H : List HProp} {c C : HProp} {y sv : Value} {RV : Hp → List Value → α → Prop} {xs : List α} {J X : List α → Hp → HProp → Prop}
    (E : Env a n ds l) (S : St w M (C :: c :: H)) (hd : Nat.blt d n = true) (hf : opv l f = some sv) (ha : opvs l as.toList = some [y]) (hs : SeqO P sv M0 RV xs C) (h0 : Hp.le M0 M) (hJ : JM J)
    (hY : YieldOK P y M1 RV xs J X) (hM : Hp.le M1 M) (h : J [] M c)
    (k : ∀ a v w' M' c', Hp.le M M' → (J xs M' c' ∨ ∃ p, p <+: xs ∧ X p M' c') → St w' M' (c' :: H) → Env a n ds ((d, v) :: l) → next a w') :
    (⟨some d, .call ⟨.value f, as, ats⟩, ty, pos, af, gd⟩ : Oper).wpIn (Fw r) 0 P a w next Q :=
  X_call E hd hf ha (hs.2 y J X hJ M h0 (hY.le hM) w M c H (Hp.le.refl _) h S) fun a v w' ⟨M', c', h1, h2, h3⟩ E => k a v w' M' c' h1 h2 h3 E
/-- a call of a function that keeps a state -/
theorem X_st {r : Option Nat} {a : Act} {w : World} {n d : Nat} {ds : List Deferred} {l : List (Nat × Value)} {ty : TypeId} {ats : Array TypeId} {pos : String} {af : Array Edge} {gd : Option (Nat × Bool)} {f : Operand} {as : Array Operand} {next : Act → World → Prop} {Q : Exit → Act → World → Prop}
    {M M0 : Hp} {H : List HProp} {p p' : HProp} {fv u : Value} {args : List Value}
    (E : Env a n ds l) (S : St w M (p :: H)) (hd : Nat.blt d n = true) (hf : opv l f = some fv) (ha : opvs l as.toList = some args) (C : Sp P fv M0 args [p] (fun r _ C' => r = u ∧ C' = [p'])) (hM : Hp.le M0 M)
    (k : ∀ a w' M', Hp.le M M' → St w' M' (p' :: H) → Env a n ds ((d, u) :: l) → next a w') : (⟨some d, .call ⟨.value f, as, ats⟩, ty, pos, af, gd⟩ : Oper).wpIn (Fw r) 0 P a w next Q :=
  X_sp (p := [p]) E S hd hf ha C hM fun a v w' M' C' h1 ⟨h2, h3⟩ S E => by subst h2; subst h3; exact k a w' M' h1 S E
end Go.Sl
