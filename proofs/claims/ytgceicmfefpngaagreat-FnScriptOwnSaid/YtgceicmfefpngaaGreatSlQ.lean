import Derived.Test.YtgceicmfefpngaaGreatSlP
set_option linter.unusedVariables false
namespace Go.Sl
open Go
def Ym (s : List Int) (x : Int) : List Int := if x ∈ s then s else s ++ [x]
def encS (s : List Int) : List (Int × Value) := s.map fun x => (x, .agg #[])
def Jd {β : Type} (vf : β → Value) (l : List (Int × β)) : List (Int × Value) := l.map fun p => (p.1, vf p.2)
abbrev Zg (b : Nat) (s : List Int) : Qr := WF b (encS s)
abbrev Zd {β : Type} (vf : β → Value) (b : Nat) (l : List (Int × β)) : Qr := WF b (Jd vf l)
theorem UW (s : List Int) : (encS s).map Prod.fst = s := by simp [encS, List.map_map, Function.comp_def]
theorem keys_encE {β : Type} (vf : β → Value) (l : List (Int × β)) : (Jd vf l).map Prod.fst = l.map Prod.fst := by simp [Jd, List.map_map, Function.comp_def]
theorem hasK_encS (s : List Int) (k : Int) : ZA (encS s) k = decide (k ∈ s) := by unfold ZA; rw [UW]
theorem putK_encS (s : List Int) (k : Int) : Zj (encS s) k (.agg #[]) = encS (Ym s k) := by
  unfold Ym
  by_cases h : k ∈ s
  · rw [if_pos h]
    induction s with
    | nil => simp at h
    | cons x s ih =>
      show Zj ((x, Value.agg #[]) :: encS s) k _ = (x, Value.agg #[]) :: encS s
      simp only [Zj]
      split
      · rename_i e; rw [e]
      · rename_i e; rw [ih ((List.mem_cons.1 h).resolve_left fun e' => e e'.symm)]
  · rw [if_neg h, qH (by rw [UW]; exact h)]; simp [encS]
theorem getK_encS (s : List Int) (k : Int) : Zo (.agg #[]) (encS s) k = .agg #[] := by
  induction s with
  | nil => rfl
  | cons x s ih => show (if x = k then _ else _) = _; split <;> first | rfl | exact ih
theorem addS_nodup {s : List Int} (h : s.Nodup) (x : Int) : (Ym s x).Nodup := by
  unfold Ym; split
  · exact h
  · rename_i hx; exact List.nodup_append.2 ⟨h, by simp, fun a ha b hb e => hx (by simp at hb; rw [← hb, ← e]; exact ha)⟩
theorem mem_addS {s : List Int} {x y : Int} : y ∈ Ym s x ↔ y ∈ s ∨ y = x := by
  unfold Ym; split
  · rename_i h; exact ⟨.inl, fun e => e.elim id fun e => e ▸ h⟩
  · simp
section
variable {w w' : World} {M : Hp} {H : List Qr} {b : Nat} {L : List (Int × Value)}
theorem St.getM (s : St w M (WF b L :: H)) : ∃ es clock, w.heap[b]? = some (.map es clock) ∧ VB es clock L ∧ St w M (Jk b (.map es clock) :: H) := by
  obtain ⟨o, S⟩ := s.ex
  obtain ⟨⟨es, clock, rfl, h⟩, S⟩ := S.pure_
  exact ⟨es, clock, S.get, h, S⟩
theorem St.putM {es : Array MapEntry} {clock : Nat} (S : St w M (Jk b (.map es clock) :: H)) (h : VB es clock L) : St w M (WF b L :: H) := S.imp fun g e => ⟨_, ⟨es, clock, rfl, h⟩, e⟩
theorem St.reM {L' : List (Int × Value)} (s : St w M (WF b L :: H)) (e : L = L') : St w M (WF b L' :: H) := e ▸ s
theorem VB.none : VB #[] 0 [] := ⟨rfl, by simp, by simp, by simp⟩
def ye (M : Hp) (v : Value) (L : List (Int × Value)) : Prop := ∃ b es clock, v = .map (some b) ∧ M b = some (.map es clock) ∧ VB es clock L
theorem ye.le {M M' : Hp} {v : Value} (h : ye M v L) (hM : Hp.le M M') : ye M' v L := by
  obtain ⟨b, es, clock, e, h1, h2⟩ := h; exact ⟨b, es, clock, e, hM.2 _ _ h1, h2⟩
theorem ye.one' {M : Hp} {v : Value} (h : ye M v L) : v.oneCell' = true := by obtain ⟨_, _, _, rfl, _⟩ := h; rfl
theorem St.freezeM (s : St w M (WF b L :: H)) : ∃ M', Hp.le M M' ∧ ye M' (.map (some b)) L ∧ St w M' H := by
  obtain ⟨M', g, h1, h2, ⟨o, ⟨es, clock, rfl, h⟩, rfl⟩, S⟩ := s.freeze
  exact ⟨M', h1, ⟨b, es, clock, rfl, h2 b _ (by simp [Hp.one]), h⟩, S⟩
end
section
variable {r : Option Nat} {P : Program} {ops : Array Oper} {Q : Exit → Act → World → Prop} {a : Act} {w : World}
  {n : Nat} {ds : List Deferred} {l : List (Nat × Value)} {d : Nat} {op : Op} {ty t kt et : TypeId} {pos : String} {af : Array Edge} {gd : Option (Nat × Bool)} {x y z : Operand}
  {next : Act → World → Prop} {M : Hp} {H : List Qr} {zv : Value} {b : Nat} {k : Int} {v : Value} {L : List (Int × Value)}
theorem Uw (E : Env a n ds l) (S : St w M H) (hd : Nat.blt d n = true)
    (kk : ∀ a w' b, Env a n ds ((d, .map (some b)) :: l) → St w' M (WF b [] :: H) → next a w') : (⟨some d, .makeMap t none, ty, pos, af, gd⟩ : Oper).wpIn (Fw r) 0 P a w next Q := by
  refine Vm E hd rfl (v := .map (some w.heap.size)) (w' := w.alloc (.map #[] 0)) ?_ fun a E => kk a _ _ E ((S.new (o := .map #[] 0) rfl).putM .none)
  simp [execOp, Instr.makeMap]
theorem YC {i : Int} {κ : IntKind} (E : Env a n ds l) (S : St w M H) (hd : Nat.blt d n = true) (T : Vc P t kt et zv) (hx : Jq l x = some (.int κ i))
    (kk : ∀ a w' b, Env a n ds ((d, .map (some b)) :: l) → St w' M (WF b [] :: H) → next a w') : (⟨some d, .makeMap t (some x), ty, pos, af, gd⟩ : Oper).wpIn (Fw r) 0 P a w next Q := by
  refine Vm E hd rfl (v := .map (some w.heap.size)) (w' := w.alloc (.map #[] 0)) ?_ fun a E => kk a _ _ E ((S.new (o := .map #[] 0) rfl).putM .none)
  simp [execOp, Instr.makeMap, E.eval hx, run_underlying T.und, asInt, asIntOf, Result.andThen]
theorem vD {c : Bool} (E : Env a n ds l) (S : St w M (WF b L :: H)) (hd : Nat.blt d n = true) (T : Vc P t kt et zv) (hx : Jq l x = some (.map (some b))) (hy : Jq l y = some (.int .i64 k))
    (kk : ∀ a w', Env a n ds ((d, if c then .tuple #[Zo zv L k, .bool (ZA L k)] else Zo zv L k) :: l) → St w' M (WF b L :: H) → next a w') : (⟨some d, .lookup t x y c, ty, pos, af, gd⟩ : Oper).wpIn (Fw r) 0 P a w next Q := by
  obtain ⟨es, clock, hb, h, S1⟩ := S.getM
  have hr := yv (k := k) T hb h c
  exact Vm E hd rfl (by simp only [execOp, E.eval hx, E.eval hy]; simp [hr]) fun a E => kk a _ E S
theorem X_update (E : Env a n ds l) (S : St w M (WF b L :: H)) (T : Vc P t kt et zv) (hx : Jq l x = some (.map (some b))) (hy : Jq l y = some (.int .i64 k)) (hz : Jq l z = some v)
    (kk : ∀ a w', Env a n ds l → St w' M (WF b (Zj L k v) :: H) → next a w') : (⟨none, .mapUpdate t x y z, ty, pos, af, gd⟩ : Oper).wpIn (Fw r) 0 P a w next Q := by
  obtain ⟨es, clock, hb, h, S1⟩ := S.getM
  obtain ⟨es', clock', hr, h'⟩ := run_update (v := v) (k := k) T hb h
  refine vC (w' := { w with heap := w.heap.setIfInBounds b (.map es' clock') }) E rfl ?_ fun a E => kk a _ E ((S1.set (o' := .map es' clock') ?_ ?_).putM h')
  · simp only [execOp, E.eval hx, E.eval hy, E.eval hz]; simp [hr]
  · have := (Array.getElem?_eq_some_iff.1 hb).1; simp [this]
  · intro c hc x hx; simp only [Array.getElem?_setIfInBounds]; rw [if_neg (Ne.symm hc)]; exact hx
theorem jb (E : Env a n ds l) (S : St w M (WF b L :: H)) (T : Vc P t kt et zv) (hx : Jq l x = some (.map (some b))) :
    (execOp a.eval ⟨some d, .call ⟨.builtin .len, #[x], #[t]⟩, ty, pos, af, gd⟩).run P w = .ok (.value (.int .i64 ((L.length : Nat) : Int))) w := by
  obtain ⟨es, clock, hb, h, S1⟩ := S.getM
  simp only [execOp, resolve, invoke, builtin]; simp [E.eval hx, run_lenM T hb h]
theorem R_lookupF {c : Bool} {mv : Value} (ag : agree M w) (F : ye M mv L) (E : Env a n ds l) (T : Vc P t kt et zv) (hx : Jq l x = some mv) (hy : Jq l y = some (.int .i64 k)) :
    (execOp a.eval ⟨some d, .lookup t x y c, ty, pos, af, gd⟩).run P w = .ok (.value (if c then .tuple #[Zo zv L k, .bool (ZA L k)] else Zo zv L k)) w := by
  obtain ⟨b, es, clock, rfl, hb, h⟩ := F
  have hr := yv (k := k) T (ag.2 _ _ hb) h c
  simp only [execOp, E.eval hx, E.eval hy]; simp [hr]
theorem Ya {s : List Int} (E : Env a n ds l) (S : St w M (Zg b s :: H)) (hd : Nat.blt d n = true) (T : Vc P t kt et (.agg #[])) (hx : Jq l x = some (.map (some b))) (hy : Jq l y = some (.int .i64 k))
    (kk : ∀ a w', Env a n ds ((d, .tuple #[.agg #[], .bool (decide (k ∈ s))]) :: l) → St w' M (Zg b s :: H) → next a w') : (⟨some d, .lookup t x y true, ty, pos, af, gd⟩ : Oper).wpIn (Fw r) 0 P a w next Q :=
  vD E S hd T hx hy fun a w' E S => kk a w' (by rw [getK_encS, hasK_encS] at E; exact E) S
theorem VQ {s : List Int} (E : Env a n ds l) (S : St w M (Zg b s :: H)) (T : Vc P t kt et zv) (hx : Jq l x = some (.map (some b))) (hy : Jq l y = some (.int .i64 k)) (hz : Jq l z = some (.agg #[]))
    (kk : ∀ a w', Env a n ds l → St w' M (Zg b (Ym s k) :: H) → next a w') : (⟨none, .mapUpdate t x y z, ty, pos, af, gd⟩ : Oper).wpIn (Fw r) 0 P a w next Q :=
  X_update E S T hx hy hz fun a w' E S => kk a w' E (by rw [putK_encS] at S; exact S)
theorem R_lookupFS {mv : Value} {s : List Int} (ag : agree M w) (F : ye M mv (encS s)) (E : Env a n ds l) (T : Vc P t kt et (.agg #[])) (hx : Jq l x = some mv) (hy : Jq l y = some (.int .i64 k)) :
    (execOp a.eval ⟨some d, .lookup t x y true, ty, pos, af, gd⟩).run P w = .ok (.value (.tuple #[.agg #[], .bool (decide (k ∈ s))])) w := by
  have := R_lookupF (c := true) (d := d) (ty := ty) (pos := pos) (af := af) (gd := gd) ag F E T hx hy
  rw [getK_encS, hasK_encS] at this; exact this
theorem qm {mv : Value} {s : List Int} (ag : agree M w) (F : ye M mv (encS s)) (E : Env a n ds l) (T : Vc P t kt et (.agg #[])) (hx : Jq l x = some mv) (hy : Jq l y = some (.int .i64 k)) {r0 : Option Nat} {os0 : Array Oper} {Q0 : Exit → Act → World → Prop} {rest0 : List Oper} (k0 : ∀ a, Env a n ds ((d, (.tuple #[.agg #[], .bool (decide (k ∈ s))])) :: l) → WL r0 P os0 Q0 rest0 a w) (hd0 : Nat.blt d n = true := by rfl) : WL r0 P os0 Q0 (⟨some d, .lookup t x y true, ty, pos, af, none⟩ :: rest0) a w := Ze E hd0 rfl (R_lookupFS ag F E T hx hy) k0
theorem Yb {β : Type} {vf : β → Value} {q : List (Int × β)} {zb : β} (E : Env a n ds l) (S : St w M (Zd vf b q :: H)) (hd : Nat.blt d n = true) (T : Vc P t kt et (vf zb)) (hx : Jq l x = some (.map (some b))) (hy : Jq l y = some (.int .i64 k))
    (kk : ∀ a w', Env a n ds ((d, .tuple #[vf (Zo zb q k), .bool (ZA q k)]) :: l) → St w' M (Zd vf b q :: H) → next a w') : (⟨some d, .lookup t x y true, ty, pos, af, gd⟩ : Oper).wpIn (Fw r) 0 P a w next Q :=
  vD E S hd T hx hy fun a w' E S => kk a w' (by unfold Jd at E; rw [getK_map, hasK_map] at E; exact E) S
theorem WD {β : Type} {vf : β → Value} {q : List (Int × β)} {zb : β} (E : Env a n ds l) (S : St w M (Zd vf b q :: H)) (hd : Nat.blt d n = true) (T : Vc P t kt et (vf zb)) (hx : Jq l x = some (.map (some b))) (hy : Jq l y = some (.int .i64 k))
    (kk : ∀ a w', Env a n ds ((d, vf (Zo zb q k)) :: l) → St w' M (Zd vf b q :: H) → next a w') : (⟨some d, .lookup t x y false, ty, pos, af, gd⟩ : Oper).wpIn (Fw r) 0 P a w next Q :=
  vD E S hd T hx hy fun a w' E S => kk a w' (by unfold Jd at E; rw [getK_map] at E; exact E) S
theorem ZZ {β : Type} {vf : β → Value} {q : List (Int × β)} {u : β} (E : Env a n ds l) (S : St w M (Zd vf b q :: H)) (T : Vc P t kt et zv) (hx : Jq l x = some (.map (some b))) (hy : Jq l y = some (.int .i64 k)) (hz : Jq l z = some (vf u))
    (kk : ∀ a w', Env a n ds l → St w' M (Zd vf b (Zj q k u) :: H) → next a w') : (⟨none, .mapUpdate t x y z, ty, pos, af, gd⟩ : Oper).wpIn (Fw r) 0 P a w next Q :=
  X_update E S T hx hy hz fun a w' E S => kk a w' E (by unfold Jd at S; rw [putK_map] at S; exact S)
theorem Wa {β : Type} (vf : β → Value) (q : List (Int × β)) : (Jd vf q).length = q.length := List.length_map _
end
end Go.Sl
