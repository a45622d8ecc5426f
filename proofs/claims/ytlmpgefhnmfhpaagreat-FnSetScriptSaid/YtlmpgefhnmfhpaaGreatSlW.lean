import Derived.Test.YtlmpgefhnmfhpaaGreatSlT
set_option linter.unusedVariables false
namespace Go.Sl
open Go Go.RowKit
variable {P : Program} {α : Type}
theorem St.reSt {w : World} {M : Hp} {H : List Qm} {α : Type} {C : α → Qm} {s s' : α} (S : St w M (C s :: H)) (h : s = s') : St w M (C s' :: H) := h ▸ S
theorem St.as {w : World} {M : Hp} {H : List Qm} {p q : Qm} (S : St w M (p :: H)) (h : p = q) : St w M (q :: H) := h ▸ S
def cellI (b : Nat) (t : TypeId) (s : Int) : Qm := Qh b (.cells #[.int .i64 s] t)
def StF1I (P : Program) (fv : Value) (M : Hp) (C : Int → Qm) (f g : Int → Int → Int) : Prop := fv.oneCell' = true ∧ ∀ s x : Int, Sp P fv M [.int .i64 x] [C s] (fun r _ C' => r = .int .i64 (f s x) ∧ C' = [C (g s x)])
def StF1B (P : Program) (fv : Value) (M : Hp) (C : Int → Qm) (f : Int → Int → Bool) (g : Int → Int → Int) : Prop := fv.oneCell' = true ∧ ∀ s x : Int, Sp P fv M [.int .i64 x] [C s] (fun r _ C' => r = .bool (f s x) ∧ C' = [C (g s x)])
def StF2I (P : Program) (fv : Value) (M : Hp) (C : Int → Qm) (f g : Int → Int → Int) : Prop := fv.oneCell' = true ∧ ∀ s x i : Int, Sp P fv M [.int .i64 x, .int .i64 i] [C s] (fun r _ C' => r = .int .i64 (f s x) ∧ C' = [C (g s x)])
theorem StF1I.le {fv : Value} {M M' : Hp} {C : Int → Qm} {f g : Int → Int → Int} (h : StF1I P fv M C f g) (hM : Hp.le M M') : StF1I P fv M' C f g := ⟨h.1, fun s x => (h.2 s x).le hM⟩
theorem StF1B.le {fv : Value} {M M' : Hp} {C : Int → Qm} {f : Int → Int → Bool} {g : Int → Int → Int} (h : StF1B P fv M C f g) (hM : Hp.le M M') : StF1B P fv M' C f g := ⟨h.1, fun s x => (h.2 s x).le hM⟩
theorem StF2I.le {fv : Value} {M M' : Hp} {C : Int → Qm} {f g : Int → Int → Int} (h : StF2I P fv M C f g) (hM : Hp.le M M') : StF2I P fv M' C f g := ⟨h.1, fun s x i => (h.2 s x i).le hM⟩
def SeqO (P : Program) (sv : Value) (M0 : Hp) (RV : Hp → List Value → α → Prop) (l : List α) (C : Qm) : Prop :=
  sv.oneCell' = true ∧ ∀ (y : Value) (J X : List α → Hp → Qm → Prop), JM J → ∀ M1, Hp.le M0 M1 → Wd P y M1 RV l J X → ∀ w M c H, Hp.le M1 M → J [] M c → St w M (C :: c :: H) →
    Yd P sv [y] w (fun _ w' => ∃ M' c', Hp.le M M' ∧ (J l M' c' ∨ ∃ p, p <+: l ∧ X p M' c') ∧ St w' M' (c' :: H))
theorem SeqO.le {sv : Value} {M0 M1 : Hp} {RV : Hp → List Value → α → Prop} {l : List α} {C : Qm} (h : SeqO P sv M0 RV l C) (hM : Hp.le M0 M1) : SeqO P sv M1 RV l C :=
  ⟨h.1, fun y J X hJ M2 h2 => h.2 y J X hJ M2 (hM.trans h2)⟩
def SeqF (P : Program) (sv : Value) (M0 : Hp) (F : Int → List Int) (C : Int → Qm) : Prop := ∀ s, SeqO P sv M0 Wn (F s) (C s)
theorem SeqF.le {sv : Value} {M0 M1 : Hp} {F : Int → List Int} {C : Int → Qm} (h : SeqF P sv M0 F C) (hM : Hp.le M0 M1) : SeqF P sv M1 F C := fun s => (h s).le hM
end Go.Sl
