import Derived.Test.YtlmpgefhnmfhpaaGreatSlP
set_option linter.unusedVariables false
namespace Go.Sl
open Go
def Zr (s : List Int) (x : Int) : List Int := if x ∈ s then s else s ++ [x]
def encS (s : List Int) : List (Int × Value) := s.map fun x => (x, .agg #[])
def ZY {β : Type} (vf : β → Value) (l : List (Int × β)) : List (Int × Value) := l.map fun p => (p.1, vf p.2)
abbrev Qv (b : Nat) (s : List Int) : Qm := UN b (encS s)
abbrev vY {β : Type} (vf : β → Value) (b : Nat) (l : List (Int × β)) : Qm := UN b (ZY vf l)
theorem VU (s : List Int) : (encS s).map Prod.fst = s := by simp [encS, List.map_map, Function.comp_def]
theorem UY {β : Type} (vf : β → Value) (l : List (Int × β)) : (ZY vf l).map Prod.fst = l.map Prod.fst := by simp [ZY, List.map_map, Function.comp_def]
theorem vK (s : List Int) (k : Int) : vL (encS s) k = decide (k ∈ s) := by unfold vL; rw [VU]
theorem vG (s : List Int) (k : Int) : Yq (encS s) k (.agg #[]) = encS (Zr s k) := by
  unfold Zr
  by_cases h : k ∈ s
  · rw [if_pos h]
    induction s with
    | nil => simp at h
    | cons x s ih =>
      show Yq ((x, Value.agg #[]) :: encS s) k _ = (x, Value.agg #[]) :: encS s
      simp only [Yq]
      split
      · rename_i e; rw [e]
      · rename_i e; rw [ih ((List.mem_cons.1 h).resolve_left fun e' => e e'.symm)]
  · rw [if_neg h, qf (by rw [VU]; exact h)]; simp [encS]
theorem vM (s : List Int) (k : Int) : qM (.agg #[]) (encS s) k = .agg #[] := by
  induction s with
  | nil => rfl
  | cons x s ih => show (if x = k then _ else _) = _; split <;> first | rfl | exact ih
theorem qR {s : List Int} (h : s.Nodup) (x : Int) : (Zr s x).Nodup := by
  unfold Zr; split
  · exact h
  · rename_i hx; exact List.nodup_append.2 ⟨h, by simp, fun a ha b hb e => hx (by simp at hb; rw [← hb, ← e]; exact ha)⟩
theorem ya {s : List Int} {x y : Int} : y ∈ Zr s x ↔ y ∈ s ∨ y = x := by
  unfold Zr; split
  · rename_i h; exact ⟨.inl, fun e => e.elim id fun e => e ▸ h⟩
  · simp
section
variable {w w' : World} {M : Hp} {H : List Qm} {b : Nat} {L : List (Int × Value)}
theorem St.getM (s : St w M (UN b L :: H)) : ∃ es clock, w.heap[b]? = some (.map es clock) ∧ Vi es clock L ∧ St w M (Qh b (.map es clock) :: H) := by
  obtain ⟨o, S⟩ := s.ex
  obtain ⟨⟨es, clock, rfl, h⟩, S⟩ := S.pure_
  exact ⟨es, clock, S.get, h, S⟩
theorem St.putM {es : Array MapEntry} {clock : Nat} (S : St w M (Qh b (.map es clock) :: H)) (h : Vi es clock L) : St w M (UN b L :: H) := S.imp fun g e => ⟨_, ⟨es, clock, rfl, h⟩, e⟩
theorem St.reM {L' : List (Int × Value)} (s : St w M (UN b L :: H)) (e : L = L') : St w M (UN b L' :: H) := e ▸ s
theorem Vi.none : Vi #[] 0 [] := ⟨rfl, by simp, by simp, by simp⟩
def qZ (M : Hp) (v : Value) (L : List (Int × Value)) : Prop := ∃ b es clock, v = .map (some b) ∧ M b = some (.map es clock) ∧ Vi es clock L
theorem qZ.le {M M' : Hp} {v : Value} (h : qZ M v L) (hM : Hp.le M M') : qZ M' v L := by
  obtain ⟨b, es, clock, e, h1, h2⟩ := h; exact ⟨b, es, clock, e, hM.2 _ _ h1, h2⟩
theorem qZ.one' {M : Hp} {v : Value} (h : qZ M v L) : v.oneCell' = true := by obtain ⟨_, _, _, rfl, _⟩ := h; rfl
theorem qZ.nodup {M : Hp} {v : Value} (h : qZ M v L) : (L.map Prod.fst).Nodup := by obtain ⟨_, _, _, _, _, h⟩ := h; exact h.nd
theorem St.freezeM (s : St w M (UN b L :: H)) : ∃ M', Hp.le M M' ∧ qZ M' (.map (some b)) L ∧ St w M' H := by
  obtain ⟨M', g, h1, h2, ⟨o, ⟨es, clock, rfl, h⟩, rfl⟩, S⟩ := s.freeze
  exact ⟨M', h1, ⟨b, es, clock, rfl, h2 b _ (by simp [Hp.one]), h⟩, S⟩
end
section
variable {r : Option Nat} {P : Program} {ops : Array Oper} {Q : Exit → Act → World → Prop} {a : Act} {w : World}
  {n : Nat} {ds : List Deferred} {l : List (Nat × Value)} {d : Nat} {op : Op} {ty t kt et : TypeId} {pos : String} {af : Array Edge} {gd : Option (Nat × Bool)} {x y z : Operand}
  {next : Act → World → Prop} {M : Hp} {H : List Qm} {zv : Value} {b : Nat} {k : Int} {v : Value} {L : List (Int × Value)}
theorem jb (E : Env a n ds l) (S : St w M H) (hd : Nat.blt d n = true)
    (kk : ∀ a w' b, Env a n ds ((d, .map (some b)) :: l) → St w' M (UN b [] :: H) → next a w') : (⟨some d, .makeMap t none, ty, pos, af, gd⟩ : Oper).wpIn (Fw r) 0 P a w next Q := by
  refine Vf E hd rfl (v := .map (some w.heap.size)) (w' := w.alloc (.map #[] 0)) ?_ fun a E => kk a _ _ E ((S.new (o := .map #[] 0) rfl).putM .none)
  simp [execOp, Instr.makeMap]
theorem YW {i : Int} {κ : IntKind} (E : Env a n ds l) (S : St w M H) (hd : Nat.blt d n = true) (T : Vh P t kt et zv) (hx : Jy l x = some (.int κ i))
    (kk : ∀ a w' b, Env a n ds ((d, .map (some b)) :: l) → St w' M (UN b [] :: H) → next a w') : (⟨some d, .makeMap t (some x), ty, pos, af, gd⟩ : Oper).wpIn (Fw r) 0 P a w next Q := by
  refine Vf E hd rfl (v := .map (some w.heap.size)) (w' := w.alloc (.map #[] 0)) ?_ fun a E => kk a _ _ E ((S.new (o := .map #[] 0) rfl).putM .none)
  simp [execOp, Instr.makeMap, E.eval hx, run_underlying T.und, asInt, asIntOf, Result.andThen]
theorem yn (E : Env a n ds l) (S : St w M (UN b L :: H)) (T : Vh P t kt et zv) (hx : Jy l x = some (.map (some b))) (hy : Jy l y = some (.int .i64 k)) (hz : Jy l z = some v)
    (kk : ∀ a w', Env a n ds l → St w' M (UN b (Yq L k v) :: H) → next a w') : (⟨none, .mapUpdate t x y z, ty, pos, af, gd⟩ : Oper).wpIn (Fw r) 0 P a w next Q := by
  obtain ⟨es, clock, hb, h, S1⟩ := S.getM
  obtain ⟨es', clock', hr, h'⟩ := yy (v := v) (k := k) T hb h
  refine qS (w' := { w with heap := w.heap.setIfInBounds b (.map es' clock') }) E rfl ?_ fun a E => kk a _ E ((S1.set (o' := .map es' clock') ?_ ?_).putM h')
  · simp only [execOp, E.eval hx, E.eval hy, E.eval hz]; simp [hr]
  · have := (Array.getElem?_eq_some_iff.1 hb).1; simp [this]
  · intro c hc x hx; simp only [Array.getElem?_setIfInBounds]; rw [if_neg (Ne.symm hc)]; exact hx
theorem UL (E : Env a n ds l) (S : St w M (UN b L :: H)) (T : Vh P t kt et zv) (hx : Jy l x = some (.map (some b))) :
    (execOp a.eval ⟨some d, .call ⟨.builtin .len, #[x], #[t]⟩, ty, pos, af, gd⟩).run P w = .ok (.value (.int .i64 ((L.length : Nat) : Int))) w := by
  obtain ⟨es, clock, hb, h, S1⟩ := S.getM
  simp only [execOp, resolve, invoke, builtin]; simp [E.eval hx, jM T hb h]
theorem vV {c : Bool} {mv : Value} (ag : agree M w) (F : qZ M mv L) (E : Env a n ds l) (T : Vh P t kt et zv) (hx : Jy l x = some mv) (hy : Jy l y = some (.int .i64 k)) :
    (execOp a.eval ⟨some d, .lookup t x y c, ty, pos, af, gd⟩).run P w = .ok (.value (if c then .tuple #[qM zv L k, .bool (vL L k)] else qM zv L k)) w := by
  obtain ⟨b, es, clock, rfl, hb, h⟩ := F
  have hr := yz (k := k) T (ag.2 _ _ hb) h c
  simp only [execOp, E.eval hx, E.eval hy]; simp [hr]
theorem zb {mv : Value} (ag : agree M w) (F : qZ M mv L) (E : Env a n ds l) (T : Vh P t kt et zv) (hx : Jy l x = some mv) :
    (execOp a.eval ⟨some d, .call ⟨.builtin .len, #[x], #[t]⟩, ty, pos, af, gd⟩).run P w = .ok (.value (.int .i64 ((L.length : Nat) : Int))) w := by
  obtain ⟨b, es, clock, rfl, hb, h⟩ := F
  simp only [execOp, resolve, invoke, builtin]; simp [E.eval hx, jM T (ag.2 _ _ hb) h]
theorem We {s : List Int} (E : Env a n ds l) (S : St w M (Qv b s :: H)) (T : Vh P t kt et zv) (hx : Jy l x = some (.map (some b))) (hy : Jy l y = some (.int .i64 k)) (hz : Jy l z = some (.agg #[]))
    (kk : ∀ a w', Env a n ds l → St w' M (Qv b (Zr s k) :: H) → next a w') : (⟨none, .mapUpdate t x y z, ty, pos, af, gd⟩ : Oper).wpIn (Fw r) 0 P a w next Q :=
  yn E S T hx hy hz fun a w' E S => kk a w' E (by rw [vG] at S; exact S)
theorem yW {mv : Value} {s : List Int} (ag : agree M w) (F : qZ M mv (encS s)) (E : Env a n ds l) (T : Vh P t kt et (.agg #[])) (hx : Jy l x = some mv) (hy : Jy l y = some (.int .i64 k)) :
    (execOp a.eval ⟨some d, .lookup t x y true, ty, pos, af, gd⟩).run P w = .ok (.value (.tuple #[.agg #[], .bool (decide (k ∈ s))])) w := by
  have := vV (c := true) (d := d) (ty := ty) (pos := pos) (af := af) (gd := gd) ag F E T hx hy
  rw [vM, vK] at this; exact this
theorem Ub {mv : Value} {s : List Int} (ag : agree M w) (F : qZ M mv (encS s)) (E : Env a n ds l) (T : Vh P t kt et (.agg #[])) (hx : Jy l x = some mv) (hy : Jy l y = some (.int .i64 k)) {r0 : Option Nat} {os0 : Array Oper} {Q0 : Exit → Act → World → Prop} {rest0 : List Oper} (k0 : ∀ a, Env a n ds ((d, (.tuple #[.agg #[], .bool (decide (k ∈ s))])) :: l) → WL r0 P os0 Q0 rest0 a w) (hd0 : Nat.blt d n = true := by rfl) : WL r0 P os0 Q0 (⟨some d, .lookup t x y true, ty, pos, af, none⟩ :: rest0) a w := Zt E hd0 rfl (yW ag F E T hx hy) k0
theorem zZ {β : Type} {vf : β → Value} {q : List (Int × β)} {u : β} (E : Env a n ds l) (S : St w M (vY vf b q :: H)) (T : Vh P t kt et zv) (hx : Jy l x = some (.map (some b))) (hy : Jy l y = some (.int .i64 k)) (hz : Jy l z = some (vf u))
    (kk : ∀ a w', Env a n ds l → St w' M (vY vf b (Yq q k u) :: H) → next a w') : (⟨none, .mapUpdate t x y z, ty, pos, af, gd⟩ : Oper).wpIn (Fw r) 0 P a w next Q :=
  yn E S T hx hy hz fun a w' E S => kk a w' E (by unfold ZY at S; rw [putK_map] at S; exact S)
theorem Yg (s : List Int) : (encS s).length = s.length := List.length_map _
theorem yh {β : Type} (vf : β → Value) (q : List (Int × β)) : (ZY vf q).length = q.length := List.length_map _
end
end Go.Sl
