import Derived.Test.YtejfcglfjdfneaaSlW
import Derived.Laws.StructEq
/-! Rows of structs: pairs and triples of numbers. -/
set_option linter.unusedVariables false
namespace Go.Sl
open Go Go.RowKit
def RP2 : Hp → List Value → Int × Int → Prop := fun _ cs x => cs = [.int .i64 x.1, .int .i64 x.2]
def RP3 : Hp → List Value → Int × Int × Int → Prop := fun _ cs x => cs = [.int .i64 x.1, .int .i64 x.2.1, .int .i64 x.2.2]
theorem RP2_mono : RMono RP2 := fun _ _ _ _ _ h => h
theorem RP3_mono : RMono RP3 := fun _ _ _ _ _ h => h
theorem one_RP2 : ROne RP2 := by rintro M cs x rfl u hu; simp at hu; rcases hu with rfl | rfl <;> rfl
theorem one_RP3 : ROne RP3 := by rintro M cs x rfl u hu; simp at hu; rcases hu with rfl | rfl | rfl <;> rfl
def cellsM (M : Hp) (p : Addr) (cs : List Value) : Prop := ∀ j c, cs[j]? = some c → cellM M (p.add j) = some c
theorem cellsM_le {M M' : Hp} {p : Addr} {cs : List Value} (hM : Hp.le M M') (h : cellsM M p cs) : cellsM M' p cs := fun j c hj => cellM_le hM (h j c hj)
theorem RdP2.at {M : Hp} {v : Value} {l : List (Int × Int)} {k : Nat} {e : Int × Int} (h : RdS 2 RP2 M v l) (he : l[k]? = some e) : ∃ p, IdxPtr v k 2 p ∧ cellsM M p [.int .i64 e.1, .int .i64 e.2] := by
  obtain ⟨p, cs, h1, h2, h3, h4⟩ := RdS.at h he
  unfold RP2 at h3; subst h3; exact ⟨p, h1, h4⟩
theorem RdP3.at {M : Hp} {v : Value} {l : List (Int × Int × Int)} {k : Nat} {e : Int × Int × Int} (h : RdS 3 RP3 M v l) (he : l[k]? = some e) : ∃ p, IdxPtr v k 3 p ∧ cellsM M p [.int .i64 e.1, .int .i64 e.2.1, .int .i64 e.2.2] := by
  obtain ⟨p, cs, h1, h2, h3, h4⟩ := RdS.at h he
  unfold RP3 at h3; subst h3; exact ⟨p, h1, h4⟩
section
variable {r : Option Nat} {P : Program} {ops : Array Oper} {Q : Exit → Act → World → Prop} {a : Act} {w : World}
  {n : Nat} {ds : List Deferred} {l : List (Nat × Value)} {d : Nat} {op : Op} {ty t t' el : TypeId} {pos : String} {af : Array Edge} {gd : Option (Nat × Bool)} {x y z : Operand}
  {next : Act → World → Prop} {M : Hp} {H : List HProp} {v : Value} {sz by_ : Nat} {zv : Value}
theorem R_loadA {p : Addr} {cs : List Value} (E : Env a n ds l) (hx : opv l x = some (.pointer (some p))) (hg : (isAgg t).run P w = .ok true w) (hs : (sizeOf t).run P w = .ok cs.length w) (ag : agree M w) (hc : cellsM M p cs) :
    (execOp a.eval ⟨some d, .load t x, ty, pos, af, gd⟩).run P w = .ok (.value (.agg cs.toArray)) w := R_loadG E hx hg hs fun j u hj => cellM_world ag (hc j u hj)
theorem e_loadA {p : Addr} {cs : List Value} (E : Env a n ds l) (hx : opv l x = some (.pointer (some p))) (hg : (isAgg t).run P w = .ok true w) (hs : (sizeOf t).run P w = .ok cs.length w) (ag : agree M w) (hc : cellsM M p cs) {r0 : Option Nat} {os0 : Array Oper} {Q0 : Exit → Act → World → Prop} {rest0 : List Oper} (k0 : ∀ a, Env a n ds ((d, (.agg cs.toArray)) :: l) → WL r0 P os0 Q0 rest0 a w) (hd0 : Nat.blt d n = true := by rfl) : WL r0 P os0 Q0 (⟨some d, .load t x, ty, pos, af, none⟩ :: rest0) a w := O_val E hd0 rfl (R_loadA E hx hg hs ag hc) k0
theorem eqF_nil {D : Nat} {xs ys : Array Value} : (Op.eqFields D xs ys []).run P w = .ok (decide True) w := by simp [Op.eqFields]
theorem eqF_cons {D : Nat} {xs ys : Array Value} {f : Field} {fs : List Field} {κ k : IntKind} {i j : Int} {p : Prop} [Decidable p] (hn : f.name ≠ "_") (hg : ∀ w, (isAgg f.type).run P w = .ok false w) (hu : P.underlying f.type = some (.int κ)) (hx : xs[f.offset]? = some (.int k i)) (hy : ys[f.offset]? = some (.int k j))
    (h : (Op.eqFields (D + 1) xs ys fs).run P w = .ok (decide p) w) : (Op.eqFields (D + 1) xs ys (f :: fs)).run P w = .ok (decide (i = j ∧ p)) w := by
  have h1 : (part f.type xs f.offset).run P w = .ok (.int k i) w := by simp [part, hg, hx]
  have h2 : (part f.type ys f.offset).run P w = .ok (.int k j) w := by simp [part, hg, hy]
  simp only [Op.eqFields, if_pos hn, Sem.run_bind, h1, h2, Result.andThen_ok, run_equalIn_int w D f.type k κ i j hu]
  by_cases e : i = j
  · subst e; simp [h]
  · have : (i == j) = false := by simpa using e
    simp [this, e]
theorem run_eqA {fs : Array Field} {xs ys : Array Value} {p : Prop} [Decidable p] (hu : P.underlying t = some (.struct fs)) (hp : P.stoodInHeld t = false) (h : (Op.eqFields 9999 xs ys fs.toList).run P w = .ok (decide p) w) :
    (Op.equalIn 10000 t (.agg xs) (.agg ys)).run P w = .ok (decide p) w := by
  have e : P.fieldsOf t = fs := by simp [Program.fieldsOf, hu]
  rw [run_equalIn_agg w 9999 t xs ys (by rw [e]; exact hu) hp, e]; exact h
theorem R_eqlA {xs ys : Array Value} {p : Prop} [Decidable p] (E : Env a n ds l) (hx : opv l x = some (.agg xs)) (hy : opv l y = some (.agg ys)) (hm : P.eqGuardType P.depth t = false) (h : (Op.equalIn 10000 t (.agg xs) (.agg ys)).run P w = .ok (decide p) w) :
    (execOp a.eval ⟨some d, .binOp .eql t x y t', ty, pos, af, gd⟩).run P w = .ok (.value (.bool (decide p))) w := by
  simp [execOp, E.eval hx, E.eval hy, run_eqGuard_agg w _ t _ _ xs ys hm, run_eql_struct, h]
theorem e_eqlA {xs ys : Array Value} {p : Prop} [Decidable p] (E : Env a n ds l) (hx : opv l x = some (.agg xs)) (hy : opv l y = some (.agg ys)) (hm : P.eqGuardType P.depth t = false) (h : (Op.equalIn 10000 t (.agg xs) (.agg ys)).run P w = .ok (decide p) w) {r0 : Option Nat} {os0 : Array Oper} {Q0 : Exit → Act → World → Prop} {rest0 : List Oper} (k0 : ∀ a, Env a n ds ((d, (.bool (decide p))) :: l) → WL r0 P os0 Q0 rest0 a w) (hd0 : Nat.blt d n = true := by rfl) : WL r0 P os0 Q0 (⟨some d, .binOp .eql t x y t', ty, pos, af, none⟩ :: rest0) a w := O_val E hd0 rfl (R_eqlA E hx hy hm h) k0
theorem R_neqA {xs ys : Array Value} {p : Prop} [Decidable p] (E : Env a n ds l) (hx : opv l x = some (.agg xs)) (hy : opv l y = some (.agg ys)) (hm : P.eqGuardType P.depth t = false) (h : (Op.equalIn 10000 t (.agg xs) (.agg ys)).run P w = .ok (decide p) w) :
    (execOp a.eval ⟨some d, .binOp .neq t x y t', ty, pos, af, gd⟩).run P w = .ok (.value (.bool (decide (¬ p)))) w := by
  simp [execOp, E.eval hx, E.eval hy, run_eqGuard_agg w _ t _ _ xs ys hm, run_neq_struct, h]
theorem e_neqA {xs ys : Array Value} {p : Prop} [Decidable p] (E : Env a n ds l) (hx : opv l x = some (.agg xs)) (hy : opv l y = some (.agg ys)) (hm : P.eqGuardType P.depth t = false) (h : (Op.equalIn 10000 t (.agg xs) (.agg ys)).run P w = .ok (decide p) w) {r0 : Option Nat} {os0 : Array Oper} {Q0 : Exit → Act → World → Prop} {rest0 : List Oper} (k0 : ∀ a, Env a n ds ((d, (.bool (decide (¬ p)))) :: l) → WL r0 P os0 Q0 rest0 a w) (hd0 : Nat.blt d n = true := by rfl) : WL r0 P os0 Q0 (⟨some d, .binOp .neq t x y t', ty, pos, af, none⟩ :: rest0) a w := O_val E hd0 rfl (R_neqA E hx hy hm h) k0
theorem fillA_get : ∀ (L : List Value) (k : Nat) (init : Array Value), k + L.length ≤ init.size → ∀ i, ((L.zipIdx k).foldl (fun (cs : Array Value) (c : Value × Nat) => cs.setIfInBounds (0 + c.2) c.1) init)[i]? = if k ≤ i ∧ i < k + L.length then L[i - k]? else init[i]?
  | [], k, init, h, i => by simp; intro h1 h2; omega
  | c :: L, k, init, h, i => by
    simp only [List.length_cons] at h
    rw [List.zipIdx_cons, List.foldl_cons, fillA_get L (k + 1) _ (by simp; omega) i]
    simp only [Nat.zero_add, List.length_cons]
    by_cases h1 : k + 1 ≤ i ∧ i < k + 1 + L.length
    · rw [if_pos h1, if_pos (by omega), show i - k = (i - (k + 1)) + 1 by omega, List.getElem?_cons_succ]
    · rw [if_neg h1, Array.getElem?_setIfInBounds]
      by_cases h2 : k = i
      · subst h2; rw [if_pos rfl, if_pos (by omega), if_pos (by omega)]; simp
      · rw [if_neg h2, if_neg (by omega)]
theorem fillA (cs init : Array Value) (h : init.size = cs.size) : Instr.fill (fun i => some (i * cs.size, cs.size)) init [(0, .agg cs)] = some cs := by
  have hsz : ¬ ((Value.agg cs).cells.size ≠ cs.size || 0 * cs.size + (Value.agg cs).cells.size > init.size) = true := by simp [Value.cells, h]
  simp only [Instr.fill]
  rw [if_neg hsz]
  congr 1
  apply Array.ext_getElem?
  intro i
  have := fillA_get cs.toList 0 init (by simp; omega) i
  simp only [Value.cells, Nat.zero_mul]
  rw [← Array.foldl_toList, Array.toList_zipIdx]
  rw [show (fun (x : Array Value) (x_1 : Value × Nat) => x.setIfInBounds (0 + x_1.snd) x_1.fst) = (fun (cs : Array Value) (c : Value × Nat) => cs.setIfInBounds (0 + c.2) c.1) from rfl, this]
  by_cases hi : i < cs.size
  · rw [if_pos (by simp; omega)]; simp
  · rw [if_neg (by simp; omega)]; simp [Array.getElem?_eq_none (show init.size ≤ i by omega), Array.getElem?_eq_none (show cs.size ≤ i by omega)]
/-- a slice with one struct in it -/
theorem X_buildA {i0 : Operand} {cs : List Value} (E : Env a n ds l) (S : St w M H) (hd : Nat.blt d n = true) (T : SlT P t el sz by_ zv) (hp : opv l i0 = some (.agg cs.toArray)) (hl : cs.length = sz) (hsz : Nat.ble sz 1000 = true)
    (kk : ∀ a w' v, Env a n ds ((d, v) :: l) → St w' M (OwnC el sz v 1 cs :: H) → next a w') : (⟨some d, .buildSlice t 1 #[(0, i0)], ty, pos, af, gd⟩ : Oper).wpIn (Fw r) 0 P a w next Q := by
  obtain ⟨ti, h2, h3, h4, h5⟩ := T.inf
  have hs := T.pos
  have hz : sz ≤ 1000 := by simpa using hsz
  have hzs : zv.cells.size = sz := T.zsz
  have hf := fillA cs.toArray ((Array.range (1 * sz)).map (zv.cells[· % zv.cells.size]!)) (by simp [hl])
  refine X_val E hd rfl (v := .slice (some ⟨w.heap.size, 0, none⟩) 1 1) (w' := w.alloc (.cells cs.toArray el)) ?_ fun a E => kk a _ _ E ?_
  · have hn : ¬ (1 * sz > 2 ^ 24) := by omega
    have hn2 : ¬ (1 * sz = 0) := by omega
    have hlz : cs.toArray.size = sz := by simp [hl]
    rw [hlz] at hf
    simp only [execOp]
    simp only [Instr.buildSlice, Sem.run_bind, run_underlying T.und, Result.andThen_ok, T.sizeOf, hn, hn2, if_false, Sem.run_pure]
    simp [zeroValue, typeInfo, h2, h5, E.eval hp, newRow] at hf ⊢
    simp [hf]
  · exact (S.new rfl).ownOf (by omega) (Nat.le_refl _) (by unfold maxLen; omega) (by simp; omega) (by rw [List.take_of_length_le (by simp; omega)])
theorem X_buildA0 (E : Env a n ds l) (S : St w M H) (hd : Nat.blt d n = true) (T : SlT P t el sz by_ zv)
    (kk : ∀ a w' v, Env a n ds ((d, v) :: l) → St w' M (OwnC el sz v 0 [] :: H) → next a w') : (⟨some d, .buildSlice t 0 #[], ty, pos, af, gd⟩ : Oper).wpIn (Fw r) 0 P a w next Q := by
  refine X_val E hd rfl (v := .slice (some ⟨w.heap.size, 0, none⟩) 0 0) (w' := w.alloc (.cells #[] el)) ?_ fun a E => kk a _ _ E ?_
  · simp only [execOp]
    simp [Instr.buildSlice, run_underlying T.und, T.sizeOf, Instr.fill, newRow, Array.range_zero']
  · exact (S.new rfl).ownOf (by simp) (Nat.le_refl _) (by unfold maxLen; omega) (by simp) (by simp)
theorem X_buildA1 {α : Type} {R : Hp → List Value → α → Prop} {i0 : Operand} {cs : List Value} {x0 : α} (hRm : RMono R) (E : Env a n ds l) (S : St w M H) (hd : Nat.blt d n = true) (T : SlT P t el sz by_ zv) (hp : opv l i0 = some (.agg cs.toArray)) (hl : cs.length = sz) (hsz : Nat.ble sz 1000 = true)
    (hR : R M cs x0)
    (kk : ∀ a v w' M', Hp.le M M' → RdS sz R M' v [x0] → St w' M' H → Env a n ds ((d, v) :: l) → next a w') : (⟨some d, .buildSlice t 1 #[(0, i0)], ty, pos, af, gd⟩ : Oper).wpIn (Fw r) 0 P a w next Q := by
  refine X_buildA E S hd T hp hl hsz fun a w' v E S => ?_
  obtain ⟨M', hM, hr, S⟩ := S.freezeC (R := R) (l := [x0]) (by simp) fun i x hx M' hM => by
    have hi : i = 0 := by have := (List.getElem?_eq_some_iff.1 hx).1; simpa using this
    subst hi
    have e : x0 = x := by simpa using hx
    subst e
    rw [Nat.zero_mul, List.drop_zero, List.take_of_length_le (by omega)]; exact hRm _ _ _ _ hM hR
  exact kk a v w' M' hM hr S E
end

def RVP2 : Hp → List Value → Int × Int → Prop := fun _ vs x => vs = [.agg #[.int .i64 x.1, .int .i64 x.2]]
def PF2P (P : Program) (fv : Value) (M : Hp) (f : Int → Int → Int × Int) : Prop := fv.oneCell' = true ∧ ∀ x y : Int, Pu P fv M [.int .i64 x, .int .i64 y] (fun r _ => r = .agg #[.int .i64 (f x y).1, .int .i64 (f x y).2])
def PF3P (P : Program) (fv : Value) (M : Hp) (f : Int → Int → Int → Int × Int × Int) : Prop := fv.oneCell' = true ∧ ∀ x y z : Int, Pu P fv M [.int .i64 x, .int .i64 y, .int .i64 z] (fun r _ => r = .agg #[.int .i64 (f x y z).1, .int .i64 (f x y z).2.1, .int .i64 (f x y z).2.2])
theorem PF2P.le {P : Program} {fv : Value} {M M' : Hp} {f : Int → Int → Int × Int} (h : PF2P P fv M f) (hM : Hp.le M M') : PF2P P fv M' f := ⟨h.1, fun x y => (h.2 x y).le hM⟩
theorem PF3P.le {P : Program} {fv : Value} {M M' : Hp} {f : Int → Int → Int → Int × Int × Int} (h : PF3P P fv M f) (hM : Hp.le M M') : PF3P P fv M' f := ⟨h.1, fun x y z => (h.2 x y z).le hM⟩
theorem St.reLen {w : World} {M : Hp} {H : List HProp} {e : TypeId} {sz m m' : Nat} {v : Value} {xs : List Value} (s : St w M (OwnC e sz v m xs :: H)) (h : m' = m) : St w M (OwnC e sz v m' xs :: H) := h ▸ s
theorem Env.ival {a : Act} {n : Nat} {ds : List Deferred} {l : List (Nat × Value)} (E : Env a n ds l) {t : Nat} {κ : IntKind} {b c : Int} (h : look l t = some (.int κ b)) (e : b = c) : Env a n ds ((t, .int κ c) :: l) := by
  subst e
  refine ⟨E.size, E.dfr, fun u v hu => ?_⟩
  rw [look_cons] at hu
  split at hu
  · rename_i h1; cases hu; rw [← h1]; exact E.get _ _ h
  · exact E.get _ _ hu
/-! ### Owned rows of structs: made, and written field by field -/
theorem RowsR2.set0 {M : Hp} {l : List (Int × Int)} {xs : List Value} {k : Nat} {e : Int × Int} {i : Int} (h : RowsR RP2 2 M l xs) (he : l[k]? = some e) : RowsR RP2 2 M (l.set k (i, e.2)) (xs.set (k * 2 + 0) (.int .i64 i)) := by
  obtain ⟨h1, h2, h3⟩ := h
  refine ⟨by simpa using h1, fun u hu => ?_, fun j x hx => ?_⟩
  · rcases List.mem_or_eq_of_mem_set hu with hu | rfl
    · exact h2 u hu
    · rfl
  · have hk := (List.getElem?_eq_some_iff.1 he).1
    by_cases hj : k = j
    · subst hj
      rw [List.getElem?_set_self hk] at hx; cases hx
      have h4 := h3 k e he
      unfold RP2 at h4 ⊢
      rw [List.drop_set]; simp only [Nat.add_zero, Nat.lt_irrefl, if_false, Nat.sub_self]
      rw [List.take_set, h4]; rfl
    · rw [List.getElem?_set_ne hj] at hx
      have h4 := h3 j x hx
      unfold RP2 at h4 ⊢
      rw [← h4]
      apply List.ext_getElem?; intro m
      rw [List.getElem?_take, List.getElem?_take]
      split
      · rw [List.getElem?_drop, List.getElem?_drop, List.getElem?_set_ne (by omega)]
      · rfl
theorem RowsR2.set1 {M : Hp} {l : List (Int × Int)} {xs : List Value} {k : Nat} {e : Int × Int} {i : Int} (h : RowsR RP2 2 M l xs) (he : l[k]? = some e) : RowsR RP2 2 M (l.set k (e.1, i)) (xs.set (k * 2 + 1) (.int .i64 i)) := by
  obtain ⟨h1, h2, h3⟩ := h
  refine ⟨by simpa using h1, fun u hu => ?_, fun j x hx => ?_⟩
  · rcases List.mem_or_eq_of_mem_set hu with hu | rfl
    · exact h2 u hu
    · rfl
  · have hk := (List.getElem?_eq_some_iff.1 he).1
    by_cases hj : k = j
    · subst hj
      rw [List.getElem?_set_self hk] at hx; cases hx
      have h4 := h3 k e he
      unfold RP2 at h4 ⊢
      rw [List.drop_set]; simp only [show ¬ k * 2 + 1 < k * 2 by omega, if_false, show k * 2 + 1 - k * 2 = 1 by omega]
      rw [List.take_set, h4]; rfl
    · rw [List.getElem?_set_ne hj] at hx
      have h4 := h3 j x hx
      unfold RP2 at h4 ⊢
      rw [← h4]
      apply List.ext_getElem?; intro m
      rw [List.getElem?_take, List.getElem?_take]
      split
      · rw [List.getElem?_drop, List.getElem?_drop, List.getElem?_set_ne (by omega)]
      · rfl
theorem RowsR3.setF {M : Hp} {l : List (Int × Int × Int)} {xs : List Value} {k : Nat} {e e' : Int × Int × Int} {i : Int} {f : Nat} (h : RowsR RP3 3 M l xs) (he : l[k]? = some e) (hf : f < 3)
    (hs : ([.int .i64 e.1, .int .i64 e.2.1, .int .i64 e.2.2] : List Value).set f (.int .i64 i) = [.int .i64 e'.1, .int .i64 e'.2.1, .int .i64 e'.2.2]) : RowsR RP3 3 M (l.set k e') (xs.set (k * 3 + f) (.int .i64 i)) := by
  obtain ⟨h1, h2, h3⟩ := h
  refine ⟨by simpa using h1, fun u hu => ?_, fun j x hx => ?_⟩
  · rcases List.mem_or_eq_of_mem_set hu with hu | rfl
    · exact h2 u hu
    · rfl
  · have hk := (List.getElem?_eq_some_iff.1 he).1
    by_cases hj : k = j
    · subst hj
      rw [List.getElem?_set_self hk] at hx; cases hx
      have h4 := h3 k e he
      unfold RP3 at h4 ⊢
      rw [List.drop_set]; simp only [show ¬ k * 3 + f < k * 3 by omega, if_false, show k * 3 + f - k * 3 = f by omega]
      rw [List.take_set, h4, hs]
    · rw [List.getElem?_set_ne hj] at hx
      have h4 := h3 j x hx
      unfold RP3 at h4 ⊢
      rw [← h4]
      apply List.ext_getElem?; intro m
      rw [List.getElem?_take, List.getElem?_take]
      split
      · rw [List.getElem?_drop, List.getElem?_drop, List.getElem?_set_ne (by omega)]
      · rfl
theorem RowsR3.set0 {M : Hp} {l : List (Int × Int × Int)} {xs : List Value} {k : Nat} {e : Int × Int × Int} {i : Int} (h : RowsR RP3 3 M l xs) (he : l[k]? = some e) : RowsR RP3 3 M (l.set k (i, e.2.1, e.2.2)) (xs.set (k * 3 + 0) (.int .i64 i)) := RowsR3.setF h he (by omega) rfl
theorem RowsR3.set1 {M : Hp} {l : List (Int × Int × Int)} {xs : List Value} {k : Nat} {e : Int × Int × Int} {i : Int} (h : RowsR RP3 3 M l xs) (he : l[k]? = some e) : RowsR RP3 3 M (l.set k (e.1, i, e.2.2)) (xs.set (k * 3 + 1) (.int .i64 i)) := RowsR3.setF h he (by omega) rfl
theorem RowsR3.set2 {M : Hp} {l : List (Int × Int × Int)} {xs : List Value} {k : Nat} {e : Int × Int × Int} {i : Int} (h : RowsR RP3 3 M l xs) (he : l[k]? = some e) : RowsR RP3 3 M (l.set k (e.1, e.2.1, i)) (xs.set (k * 3 + 2) (.int .i64 i)) := RowsR3.setF h he (by omega) rfl
theorem made_drop {cs : List Value} {k j : Nat} (hc : 0 < cs.length) (hj : j < k) : (((madeCells cs.toArray (k * cs.length)).toList.drop (j * cs.length)).take cs.length) = cs := by
  apply List.ext_getElem?; intro m
  rw [List.getElem?_take]
  by_cases hm : m < cs.length
  · rw [if_pos hm, List.getElem?_drop]
    have hlt : j * cs.length + m < k * cs.length := by
      have := Nat.mul_le_mul_right cs.length hj
      rw [Nat.succ_mul] at this; omega
    unfold madeCells
    simp only [Array.toList_map, Array.toList_range, List.getElem?_map, List.getElem?_range hlt, Option.map_some]
    have e : (j * cs.length + m) % cs.toArray.size = m := by
      rw [List.size_toArray, Nat.mul_comm, Nat.mul_add_mod]; exact Nat.mod_eq_of_lt hm
    rw [e, List.getElem?_eq_getElem hm]
    simp [hm]
  · rw [if_neg hm, List.getElem?_eq_none (by omega)]
theorem rows_made {α : Type} {R : Hp → List Value → α → Prop} {M : Hp} {cs : List Value} {x0 : α} {sz k : Nat} (hc : 0 < cs.length) (hs : cs.length = sz) (h1 : ∀ u ∈ cs, u.oneCell' = true) (hR : R M cs x0) : RowsR R sz M (List.replicate k x0) (madeCells cs.toArray (k * sz)).toList := by
  subst hs
  refine ⟨by simp [size_madeCells], fun u hu => ?_, fun j x hx => ?_⟩
  · unfold madeCells at hu
    simp only [Array.toList_map, Array.toList_range, List.mem_map] at hu
    obtain ⟨i, _, rfl⟩ := hu
    have hi : i % cs.toArray.size < cs.length := by rw [List.size_toArray]; exact Nat.mod_lt _ hc
    rw [getElem!_pos cs.toArray _ (by simpa using hi)]
    exact h1 _ (by simp)
  · have hj := (List.getElem?_eq_some_iff.1 hx).1
    rw [List.length_replicate] at hj
    rw [made_drop hc hj]
    rw [List.getElem?_replicate, if_pos hj] at hx; cases hx; exact hR
section
variable {r : Option Nat} {P : Program} {ops : Array Oper} {Q : Exit → Act → World → Prop} {a : Act} {w : World}
  {n : Nat} {ds : List Deferred} {l : List (Nat × Value)} {d : Nat} {op : Op} {ty t t' el : TypeId} {pos : String} {af : Array Edge} {gd : Option (Nat × Bool)} {x y z : Operand}
  {next : Act → World → Prop} {M : Hp} {H : List HProp} {v : Value} {sz by_ : Nat} {zv : Value} {κ : IntKind} {i j : Int}
theorem St.madeR {α : Type} {R : Hp → List Value → α → Prop} {e : TypeId} {k : Nat} {cs : List Value} {x0 : α} (s : St w M (OwnC e sz v k (madeCells cs.toArray (k * sz)).toList :: H)) (hc : 0 < cs.length) (hs : cs.length = sz) (h1 : ∀ u ∈ cs, u.oneCell' = true) (hR : R M cs x0) :
    ∃ xs, RowsR R sz M (List.replicate k x0) xs ∧ St w M (OwnC e sz v (List.replicate k x0).length xs :: H) := ⟨_, rows_made hc hs h1 hR, by rw [List.length_replicate]; exact s⟩
theorem X_storeF {e : TypeId} {m k f : Nat} {xs : List Value} {u : Value} {p : Addr} (E : Env a n ds l) (S : St w M (OwnC e sz v m xs :: H)) (hx : opv l x = some (.pointer (some (p.add f)))) (hy : opv l y = some u)
    (hs : (sizeOf t).run P w = .ok 1 w) (h1 : u.oneCell' = true) (hp : IdxPtr v k sz p) (hf : Nat.blt f sz = true)
    (kk : ∀ a w', Env a n ds l → St w' M (OwnC e sz v m (xs.set (k * sz + f) u) :: H) → next a w') : (⟨none, .store t x y, ty, pos, af, gd⟩ : Oper).wpIn (Fw r) 0 P a w next Q := by
  obtain ⟨hl, h⟩ := S.ownCases
  obtain ⟨A, m1, c, e1, hk, rfl⟩ := hp
  have hf : f < sz := by simpa using hf
  rcases h with ⟨rfl, rfl, _⟩ | ⟨g, cap, cur, rfl, s0, g1, g2, g3, g4⟩
  · cases e1
  · cases e1
    have hg := s0.get
    have hkm : k * sz + f < m * sz := by have := Nat.mul_le_mul_right sz hk; rw [Nat.succ_mul] at this; omega
    have hmc := Nat.mul_le_mul_right sz g1
    have hkc : k * sz + f < cur.size := by omega
    have hcells : u.cells = #[u] := by cases u <;> first | rfl | (simp [Value.oneCell'] at h1)
    rw [Addr.add_lit, Addr.add_lit, Nat.zero_add] at hx
    have hc : w.cell? ⟨g, k * sz + f, none⟩ = some cur[k * sz + f] := by simp [World.cell?, hg, hkc]
    have hf : w.frozen? ⟨g, k * sz + f, none⟩ = false := by simp [World.frozen?, hg]
    refine X_skip (w' := w.setCell ⟨g, k * sz + f, none⟩ u) E rfl ?_ fun a E => kk a _ E ?_
    · simp [execOp, E.eval hx, E.eval hy, Instr.storeAt, Instr.sureAddr, storeVar, hs, hcells, storeCells, run_store P _ _ _ _ h1, Addr.add, hc, hf]
    · have s1 := s0.set (w' := w.setCell ⟨g, k * sz + f, none⟩ u) (o' := .cells (cur.setIfInBounds (k * sz + f) u) e (0, 0)) (by simp only [World.setCell]; rw [Array.getElem?_modify, if_pos rfl, hg]; rfl)
        (fun c hc x hx => by simp only [World.setCell]; rw [Array.getElem?_modify, if_neg (Ne.symm hc)]; exact hx)
      refine s1.ownOf (by simpa using hl) g1 g2 (by simpa using g3) ?_
      rw [Array.toList_setIfInBounds, List.take_set, g4]
theorem R_max3 {m k : Int} (E : Env a n ds l) (hx : opv l x = some (.int κ i)) (hy : opv l y = some (.int κ j)) (hz : opv l z = some (.int κ k)) (hm : m = max (max i j) k) {ts : Array TypeId} :
    (execOp a.eval ⟨some d, .call ⟨.builtin .max, #[x, y, z], ts⟩, ty, pos, af, gd⟩).run P w = .ok (.value (.int κ m)) w := by
  have e : (if (if i < j then j else i) < k then k else (if i < j then j else i)) = m := by rw [hm]; omega
  simp [execOp, resolve, invoke, builtin, E.eval hx, E.eval hy, E.eval hz, Builtin.max_, Builtin.max2, e]
theorem e_max3 {m k : Int} (E : Env a n ds l) (hx : opv l x = some (.int κ i)) (hy : opv l y = some (.int κ j)) (hz : opv l z = some (.int κ k)) (hm : m = max (max i j) k) {ts : Array TypeId} {r0 : Option Nat} {os0 : Array Oper} {Q0 : Exit → Act → World → Prop} {rest0 : List Oper} (k0 : ∀ a, Env a n ds ((d, (.int κ m)) :: l) → WL r0 P os0 Q0 rest0 a w) (hd0 : Nat.blt d n = true := by rfl) : WL r0 P os0 Q0 (⟨some d, .call ⟨.builtin .max, #[x, y, z], ts⟩, ty, pos, af, none⟩ :: rest0) a w := O_val E hd0 rfl (R_max3 E hx hy hz hm) k0
end
end Go.Sl
