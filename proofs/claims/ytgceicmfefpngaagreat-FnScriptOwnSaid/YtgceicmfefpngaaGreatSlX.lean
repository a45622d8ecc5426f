import Derived.Test.YtgceicmfefpngaaGreatSlW
import Derived.Laws.StructEq
set_option linter.unusedVariables false
namespace Go.Sl
open Go Go.RowKit
def RP2 : Hp → List Value → Int × Int → Prop := fun _ cs x => cs = [.int .i64 x.1, .int .i64 x.2]
def RP3 : Hp → List Value → Int × Int × Int → Prop := fun _ cs x => cs = [.int .i64 x.1, .int .i64 x.2.1, .int .i64 x.2.2]
def qo (M : Hp) (p : Addr) (cs : List Value) : Prop := ∀ j c, cs[j]? = some c → ZU M (p.add j) = some c
theorem RdP2.at {M : Hp} {v : Value} {l : List (Int × Int)} {k : Nat} {e : Int × Int} (h : QX 2 RP2 M v l) (he : l[k]? = some e) : ∃ p, ZX v k 2 p ∧ qo M p [.int .i64 e.1, .int .i64 e.2] := by
  obtain ⟨p, cs, h1, h2, h3, h4⟩ := QX.at h he
  unfold RP2 at h3; subst h3; exact ⟨p, h1, h4⟩
theorem RdP3.at {M : Hp} {v : Value} {l : List (Int × Int × Int)} {k : Nat} {e : Int × Int × Int} (h : QX 3 RP3 M v l) (he : l[k]? = some e) : ∃ p, ZX v k 3 p ∧ qo M p [.int .i64 e.1, .int .i64 e.2.1, .int .i64 e.2.2] := by
  obtain ⟨p, cs, h1, h2, h3, h4⟩ := QX.at h he
  unfold RP3 at h3; subst h3; exact ⟨p, h1, h4⟩
section
variable {r : Option Nat} {P : Program} {ops : Array Oper} {Q : Exit → Act → World → Prop} {a : Act} {w : World}
  {n : Nat} {ds : List Deferred} {l : List (Nat × Value)} {d : Nat} {op : Op} {ty t t' el : TypeId} {pos : String} {af : Array Edge} {gd : Option (Nat × Bool)} {x y z : Operand}
  {next : Act → World → Prop} {M : Hp} {H : List Qr} {v : Value} {sz by_ : Nat} {zv : Value}
theorem R_loadA {p : Addr} {cs : List Value} (E : Env a n ds l) (hx : Jq l x = some (.pointer (some p))) (hg : (isAgg t).run P w = .ok true w) (hs : (sizeOf t).run P w = .ok cs.length w) (ag : agree M w) (hc : qo M p cs) :
    (execOp a.eval ⟨some d, .load t x, ty, pos, af, gd⟩).run P w = .ok (.value (.agg cs.toArray)) w := R_loadG E hx hg hs fun j u hj => Ui ag (hc j u hj)
theorem e_loadA {p : Addr} {cs : List Value} (E : Env a n ds l) (hx : Jq l x = some (.pointer (some p))) (hg : (isAgg t).run P w = .ok true w) (hs : (sizeOf t).run P w = .ok cs.length w) (ag : agree M w) (hc : qo M p cs) {r0 : Option Nat} {os0 : Array Oper} {Q0 : Exit → Act → World → Prop} {rest0 : List Oper} (k0 : ∀ a, Env a n ds ((d, (.agg cs.toArray)) :: l) → WL r0 P os0 Q0 rest0 a w) (hd0 : Nat.blt d n = true := by rfl) : WL r0 P os0 Q0 (⟨some d, .load t x, ty, pos, af, none⟩ :: rest0) a w := Ze E hd0 rfl (R_loadA E hx hg hs ag hc) k0
end
def PF2P (P : Program) (fv : Value) (M : Hp) (f : Int → Int → Int × Int) : Prop := fv.oneCell' = true ∧ ∀ x y : Int, Pu P fv M [.int .i64 x, .int .i64 y] (fun r _ => r = .agg #[.int .i64 (f x y).1, .int .i64 (f x y).2])
def PF3P (P : Program) (fv : Value) (M : Hp) (f : Int → Int → Int → Int × Int × Int) : Prop := fv.oneCell' = true ∧ ∀ x y z : Int, Pu P fv M [.int .i64 x, .int .i64 y, .int .i64 z] (fun r _ => r = .agg #[.int .i64 (f x y z).1, .int .i64 (f x y z).2.1, .int .i64 (f x y z).2.2])
theorem PF2P.le {P : Program} {fv : Value} {M M' : Hp} {f : Int → Int → Int × Int} (h : PF2P P fv M f) (hM : Hp.le M M') : PF2P P fv M' f := ⟨h.1, fun x y => (h.2 x y).le hM⟩
theorem PF3P.le {P : Program} {fv : Value} {M M' : Hp} {f : Int → Int → Int → Int × Int × Int} (h : PF3P P fv M f) (hM : Hp.le M M') : PF3P P fv M' f := ⟨h.1, fun x y z => (h.2 x y z).le hM⟩
theorem Env.ival {a : Act} {n : Nat} {ds : List Deferred} {l : List (Nat × Value)} (E : Env a n ds l) {t : Nat} {κ : IntKind} {b c : Int} (h : look l t = some (.int κ b)) (e : b = c) : Env a n ds ((t, .int κ c) :: l) := by
  subst e
  refine ⟨E.size, E.dfr, fun u v hu => ?_⟩
  rw [UV] at hu
  split at hu
  · rename_i h1; cases hu; rw [← h1]; exact E.get _ _ h
  · exact E.get _ _ hu
end Go.Sl
