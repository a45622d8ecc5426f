import Derived.Test.YtlmpgefhnmfhpaaGreatSlW
import Derived.Laws.StructEq
set_option linter.unusedVariables false
namespace Go.Sl
open Go Go.RowKit
def RP2 : Hp → List Value → Int × Int → Prop := fun _ cs x => cs = [.int .i64 x.1, .int .i64 x.2]
def RP3 : Hp → List Value → Int × Int × Int → Prop := fun _ cs x => cs = [.int .i64 x.1, .int .i64 x.2.1, .int .i64 x.2.2]
def VP (M : Hp) (p : Addr) (cs : List Value) : Prop := ∀ j c, cs[j]? = some c → ZC M (p.add j) = some c
theorem YV {M M' : Hp} {p : Addr} {cs : List Value} (hM : Hp.le M M') (h : VP M p cs) : VP M' p cs := fun j c hj => qP hM (h j c hj)
theorem RdP2.at {M : Hp} {v : Value} {l : List (Int × Int)} {k : Nat} {e : Int × Int} (h : JN 2 RP2 M v l) (he : l[k]? = some e) : ∃ p, Zj v k 2 p ∧ VP M p [.int .i64 e.1, .int .i64 e.2] := by
  obtain ⟨p, cs, h1, h2, h3, h4⟩ := JN.at h he
  unfold RP2 at h3; subst h3; exact ⟨p, h1, h4⟩
theorem RdP3.at {M : Hp} {v : Value} {l : List (Int × Int × Int)} {k : Nat} {e : Int × Int × Int} (h : JN 3 RP3 M v l) (he : l[k]? = some e) : ∃ p, Zj v k 3 p ∧ VP M p [.int .i64 e.1, .int .i64 e.2.1, .int .i64 e.2.2] := by
  obtain ⟨p, cs, h1, h2, h3, h4⟩ := JN.at h he
  unfold RP3 at h3; subst h3; exact ⟨p, h1, h4⟩
section
variable {r : Option Nat} {P : Program} {ops : Array Oper} {Q : Exit → Act → World → Prop} {a : Act} {w : World}
  {n : Nat} {ds : List Deferred} {l : List (Nat × Value)} {d : Nat} {op : Op} {ty t t' el : TypeId} {pos : String} {af : Array Edge} {gd : Option (Nat × Bool)} {x y z : Operand}
  {next : Act → World → Prop} {M : Hp} {H : List Qm} {v : Value} {sz by_ : Nat} {zv : Value}
theorem Yc {p : Addr} {cs : List Value} (E : Env a n ds l) (hx : Jy l x = some (.pointer (some p))) (hg : (isAgg t).run P w = .ok true w) (hs : (sizeOf t).run P w = .ok cs.length w) (ag : agree M w) (hc : VP M p cs) :
    (execOp a.eval ⟨some d, .load t x, ty, pos, af, gd⟩).run P w = .ok (.value (.agg cs.toArray)) w := jw E hx hg hs fun j u hj => Yi ag (hc j u hj)
theorem Wa {p : Addr} {cs : List Value} (E : Env a n ds l) (hx : Jy l x = some (.pointer (some p))) (hg : (isAgg t).run P w = .ok true w) (hs : (sizeOf t).run P w = .ok cs.length w) (ag : agree M w) (hc : VP M p cs) {r0 : Option Nat} {os0 : Array Oper} {Q0 : Exit → Act → World → Prop} {rest0 : List Oper} (k0 : ∀ a, Env a n ds ((d, (.agg cs.toArray)) :: l) → WL r0 P os0 Q0 rest0 a w) (hd0 : Nat.blt d n = true := by rfl) : WL r0 P os0 Q0 (⟨some d, .load t x, ty, pos, af, none⟩ :: rest0) a w := Zt E hd0 rfl (Yc E hx hg hs ag hc) k0
theorem zT : ∀ (L : List Value) (k : Nat) (init : Array Value), k + L.length ≤ init.size → ∀ i, ((L.zipIdx k).foldl (fun (cs : Array Value) (c : Value × Nat) => cs.setIfInBounds (0 + c.2) c.1) init)[i]? = if k ≤ i ∧ i < k + L.length then L[i - k]? else init[i]?
  | [], k, init, h, i => by simp; intro h1 h2; omega
  | c :: L, k, init, h, i => by
    simp only [List.length_cons] at h
    rw [List.zipIdx_cons, List.foldl_cons, zT L (k + 1) _ (by simp; omega) i]
    simp only [Nat.zero_add, List.length_cons]
    by_cases h1 : k + 1 ≤ i ∧ i < k + 1 + L.length
    · rw [if_pos h1, if_pos (by omega), show i - k = (i - (k + 1)) + 1 by omega, List.getElem?_cons_succ]
    · rw [if_neg h1, Array.getElem?_setIfInBounds]
      by_cases h2 : k = i
      · subst h2; rw [if_pos rfl, if_pos (by omega), if_pos (by omega)]; simp
      · rw [if_neg h2, if_neg (by omega)]
theorem fillA (cs init : Array Value) (h : init.size = cs.size) : Instr.fill (fun i => some (i * cs.size, cs.size)) init [(0, .agg cs)] = some cs := by
  have hsz : ¬ ((Value.agg cs).cells.size ≠ cs.size || 0 * cs.size + (Value.agg cs).cells.size > init.size) = true := by simp [Value.cells, h]
  simp only [Instr.fill]
  rw [if_neg hsz]
  congr 1
  apply Array.ext_getElem?
  intro i
  have := zT cs.toList 0 init (by simp; omega) i
  simp only [Value.cells, Nat.zero_mul]
  rw [← Array.foldl_toList, Array.toList_zipIdx]
  rw [show (fun (x : Array Value) (x_1 : Value × Nat) => x.setIfInBounds (0 + x_1.snd) x_1.fst) = (fun (cs : Array Value) (c : Value × Nat) => cs.setIfInBounds (0 + c.2) c.1) from rfl, this]
  by_cases hi : i < cs.size
  · rw [if_pos (by simp; omega)]; simp
  · rw [if_neg (by simp; omega)]; simp [Array.getElem?_eq_none (show init.size ≤ i by omega), Array.getElem?_eq_none (show cs.size ≤ i by omega)]
theorem X_buildA {i0 : Operand} {cs : List Value} (E : Env a n ds l) (S : St w M H) (hd : Nat.blt d n = true) (T : Gj P t el sz by_ zv) (hp : Jy l i0 = some (.agg cs.toArray)) (hl : cs.length = sz) (hsz : Nat.ble sz 1000 = true)
    (kk : ∀ a w' v, Env a n ds ((d, v) :: l) → St w' M (Jk el sz v 1 cs :: H) → next a w') : (⟨some d, .buildSlice t 1 #[(0, i0)], ty, pos, af, gd⟩ : Oper).wpIn (Fw r) 0 P a w next Q := by
  obtain ⟨ti, h2, h3, h4, h5⟩ := T.inf
  have hs := T.pos
  have hz : sz ≤ 1000 := by simpa using hsz
  have hzs : zv.cells.size = sz := T.zsz
  have hf := fillA cs.toArray ((Array.range (1 * sz)).map (zv.cells[· % zv.cells.size]!)) (by simp [hl])
  refine Vf E hd rfl (v := .slice (some ⟨w.heap.size, 0, none⟩) 1 1) (w' := w.alloc (.cells cs.toArray el)) ?_ fun a E => kk a _ _ E ?_
  · have hn : ¬ (1 * sz > 2 ^ 24) := by omega
    have hn2 : ¬ (1 * sz = 0) := by omega
    have hlz : cs.toArray.size = sz := by simp [hl]
    rw [hlz] at hf
    simp only [execOp]
    simp only [Instr.buildSlice, Sem.run_bind, run_underlying T.und, Result.andThen_ok, T.sizeOf, hn, hn2, if_false, Sem.run_pure]
    simp [zeroValue, typeInfo, h2, h5, E.eval hp, newRow] at hf ⊢
    simp [hf]
  · exact (S.new rfl).ownOf (by omega) (Nat.le_refl _) (by unfold maxLen; omega) (by simp; omega) (by rw [List.take_of_length_le (by simp; omega)])
theorem Wh {α : Type} {R : Hp → List Value → α → Prop} {i0 : Operand} {cs : List Value} {x0 : α} (hRm : UM R) (E : Env a n ds l) (S : St w M H) (hd : Nat.blt d n = true) (T : Gj P t el sz by_ zv) (hp : Jy l i0 = some (.agg cs.toArray)) (hl : cs.length = sz) (hsz : Nat.ble sz 1000 = true)
    (hR : R M cs x0)
    (kk : ∀ a v w' M', Hp.le M M' → JN sz R M' v [x0] → St w' M' H → Env a n ds ((d, v) :: l) → next a w') : (⟨some d, .buildSlice t 1 #[(0, i0)], ty, pos, af, gd⟩ : Oper).wpIn (Fw r) 0 P a w next Q := by
  refine X_buildA E S hd T hp hl hsz fun a w' v E S => ?_
  obtain ⟨M', hM, hr, S⟩ := S.freezeC (R := R) (l := [x0]) (by simp) fun i x hx M' hM => by
    have hi : i = 0 := by have := (List.getElem?_eq_some_iff.1 hx).1; simpa using this
    subst hi
    have e : x0 = x := by simpa using hx
    subst e
    rw [Nat.zero_mul, List.drop_zero, List.take_of_length_le (by omega)]; exact hRm _ _ _ _ hM hR
  exact kk a v w' M' hM hr S E
end
def PF2P (P : Program) (fv : Value) (M : Hp) (f : Int → Int → Int × Int) : Prop := fv.oneCell' = true ∧ ∀ x y : Int, Pu P fv M [.int .i64 x, .int .i64 y] (fun r _ => r = .agg #[.int .i64 (f x y).1, .int .i64 (f x y).2])
def PF3P (P : Program) (fv : Value) (M : Hp) (f : Int → Int → Int → Int × Int × Int) : Prop := fv.oneCell' = true ∧ ∀ x y z : Int, Pu P fv M [.int .i64 x, .int .i64 y, .int .i64 z] (fun r _ => r = .agg #[.int .i64 (f x y z).1, .int .i64 (f x y z).2.1, .int .i64 (f x y z).2.2])
theorem PF2P.le {P : Program} {fv : Value} {M M' : Hp} {f : Int → Int → Int × Int} (h : PF2P P fv M f) (hM : Hp.le M M') : PF2P P fv M' f := ⟨h.1, fun x y => (h.2 x y).le hM⟩
theorem PF3P.le {P : Program} {fv : Value} {M M' : Hp} {f : Int → Int → Int → Int × Int × Int} (h : PF3P P fv M f) (hM : Hp.le M M') : PF3P P fv M' f := ⟨h.1, fun x y z => (h.2 x y z).le hM⟩
theorem St.reLen {w : World} {M : Hp} {H : List Qm} {e : TypeId} {sz m m' : Nat} {v : Value} {xs : List Value} (s : St w M (Jk e sz v m xs :: H)) (h : m' = m) : St w M (Jk e sz v m' xs :: H) := h ▸ s
theorem RowsR3.setF {M : Hp} {l : List (Int × Int × Int)} {xs : List Value} {k : Nat} {e e' : Int × Int × Int} {i : Int} {f : Nat} (h : JX RP3 3 M l xs) (he : l[k]? = some e) (hf : f < 3)
    (hs : ([.int .i64 e.1, .int .i64 e.2.1, .int .i64 e.2.2] : List Value).set f (.int .i64 i) = [.int .i64 e'.1, .int .i64 e'.2.1, .int .i64 e'.2.2]) : JX RP3 3 M (l.set k e') (xs.set (k * 3 + f) (.int .i64 i)) := by
  obtain ⟨h1, h2, h3⟩ := h
  refine ⟨by simpa using h1, fun u hu => ?_, fun j x hx => ?_⟩
  · rcases List.mem_or_eq_of_mem_set hu with hu | rfl
    · exact h2 u hu
    · rfl
  · have hk := (List.getElem?_eq_some_iff.1 he).1
    by_cases hj : k = j
    · subst hj
      rw [List.getElem?_set_self hk] at hx; cases hx
      have h4 := h3 k e he
      unfold RP3 at h4 ⊢
      rw [List.drop_set]; simp only [show ¬ k * 3 + f < k * 3 by omega, if_false, show k * 3 + f - k * 3 = f by omega]
      rw [List.take_set, h4, hs]
    · rw [List.getElem?_set_ne hj] at hx
      have h4 := h3 j x hx
      unfold RP3 at h4 ⊢
      rw [← h4]
      apply List.ext_getElem?; intro m
      rw [List.getElem?_take, List.getElem?_take]
      split
      · rw [List.getElem?_drop, List.getElem?_drop, List.getElem?_set_ne (by omega)]
      · rfl
end Go.Sl
