import Derived.Test.YtlmpgefhnmfhpaaGreatSlR
import Derived.RecoverIn
set_option linter.unusedVariables false
namespace Go.Sl
open Go
section
variable {P : Program}
variable {ops : Array Oper} {Q : Exit → Act → World → Prop} {a : Act} {w : World} {rest : List Oper} {n : Nat} {ds : List Deferred} {l : List (Nat × Value)} {fn : Func} {R : Ending → World → Prop} {M : Hp} {H : List Qm}
def PF0L (P : Program) (fv : Value) (M : Hp) (l : List Int) : Prop := fv.oneCell' = true ∧ Pu P fv M [] (fun r M' => Zh M' r l)
def PF0M (P : Program) (fv : Value) (M : Hp) (l : List (List Int)) : Prop := fv.oneCell' = true ∧ Pu P fv M [] (fun r M' => zz M' r l)
theorem PF0L.le {fv : Value} {M M' : Hp} {f : List Int} (h : PF0L P fv M f) (hM : Hp.le M M') : PF0L P fv M' f := ⟨h.1, h.2.le hM⟩
theorem PF0M.le {fv : Value} {M M' : Hp} {f : List (List Int)} (h : PF0M P fv M f) (hM : Hp.le M M') : PF0M P fv M' f := ⟨h.1, h.2.le hM⟩
end
theorem zW (s : List Int) (k : Int) : Ul (encS s) k = encS (s.filter fun x => decide (x ≠ k)) := by
  unfold Ul encS; rw [List.filter_map]; rfl
section
variable {r : Option Nat} {P : Program} {Q : Exit → Act → World → Prop} {a : Act} {w : World}
  {n : Nat} {ds : List Deferred} {l : List (Nat × Value)} {d : Nat} {ty t kt et : TypeId} {pos : String} {af : Array Edge} {gd : Option (Nat × Bool)} {x y : Operand}
  {next : Act → World → Prop} {M : Hp} {H : List Qm} {zv : Value} {b : Nat} {k : Int}
theorem vP {L : List (Int × Value)} (E : Env a n ds l) (S : St w M (UN b L :: H)) (T : Vh P t kt et zv) (hx : Jy l x = some (.map (some b))) (hy : Jy l y = some (.int .i64 k))
    (kk : ∀ a w', Env a n ds l → St w' M (UN b (Ul L k) :: H) → next a w') : (⟨none, .call ⟨.builtin .delete, #[x, y], #[t, kt]⟩, ty, pos, af, gd⟩ : Oper).wpIn (Fw r) 0 P a w next Q := by
  obtain ⟨es, clock, hb, h, S1⟩ := S.getM
  obtain ⟨es', hr, h'⟩ := jN (ty := ty) (k := k) T hb h
  have hE : Env (a.put none (.tuple #[])) n ds l := E
  refine VW (v := .tuple #[]) (w' := { w with heap := w.heap.setIfInBounds b (.map es' clock) }) rfl ?_ (kk _ _ hE ((S1.set (o' := .map es' clock) ?_ ?_).putM h'))
  · simp only [execOp, resolve, invoke, builtin]; simp [E.eval hx, E.eval hy, hr]
  · have := (Array.getElem?_eq_some_iff.1 hb).1; simp [this]
  · intro c hc x hx; simp only [Array.getElem?_setIfInBounds]; rw [if_neg (Ne.symm hc)]; exact hx
theorem WB {s : List Int} (E : Env a n ds l) (S : St w M (Qv b s :: H)) (T : Vh P t kt et zv) (hx : Jy l x = some (.map (some b))) (hy : Jy l y = some (.int .i64 k))
    (kk : ∀ a w', Env a n ds l → St w' M (Qv b (s.filter fun x => decide (x ≠ k)) :: H) → next a w') : (⟨none, .call ⟨.builtin .delete, #[x, y], #[t, kt]⟩, ty, pos, af, gd⟩ : Oper).wpIn (Fw r) 0 P a w next Q :=
  vP E S T hx hy fun a w' E S => kk a w' E (by rw [zW] at S; exact S)
end
theorem yA {P : Program} {w : World} {t e : TypeId} {b : Nat} {cs : List Value} {fr : Nat × Nat} (hg : ∀ w, (isAgg t).run P w = .ok true w) (hs : ∀ w, (sizeOf t).run P w = .ok cs.length w) (hc : w.heap[b]? = some (.cells cs.toArray e fr)) : (loadVar t ⟨b, 0, none⟩).run P w = .ok (.agg cs.toArray) w := by
  have := run_firstCells_some (P := P) w 1 cs.length ⟨b, 0, none⟩ cs.length cs.length cs (by simp) (fun j u hj => by by_cases h0 : j = 0 <;> simp_all [World.cell?, Addr.add])
  simp only [Builtin.firstCells, Nat.mul_one] at this
  simp [loadVar, hg, hs, this]
theorem JC {P : Program} {fn : Func} {R : Ending → World → Prop} {a : Act} {w : World} {n : Nat} {l : List (Nat × Value)} {M : Hp} {H : List Qm} {Ds : List Nat} {t : Tmp} {ty e : TypeId} {b : Nat} {cs : List Value} (E : Env a n (Ds.map mk) l) (S : St w M (WE Ds :: Qh b (.cells cs.toArray e) :: H)) (h : fn.results = #[.cell t ty]) (hp : look l t = some (.pointer (some ⟨b, 0, none⟩))) (hg : ∀ w, (isAgg ty).run P w = .ok true w) (hs : ∀ w, (sizeOf ty).run P w = .ok cs.length w)
    (hR : ∀ w', St w' M (Qh b (.cells cs.toArray e) :: H) → R (.returned (.agg cs.toArray)) w') : Vj P fn R .ret a w :=
  F_ofMS E S (fun w S => by
    have h1 := E.eval (o := .tmp t) hp
    simp only [Act.eval, Array.getD_eq_getD_getElem?] at h1
    simp [results, h, h1, asAddr, yA hg hs S.get]) hR
theorem SLeq {M : Hp} {v : Value} {l l' : List Int} (h : Zh M v l) (e : l = l') : Zh M v l' := e ▸ h
end Go.Sl
