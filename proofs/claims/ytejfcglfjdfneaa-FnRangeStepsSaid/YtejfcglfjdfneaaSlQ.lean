import Derived.Test.YtejfcglfjdfneaaSlP
/-! Operations on maps whose keys are integers. -/
set_option linter.unusedVariables false
namespace Go.Sl
open Go
/-- a set of integers, in the order in which they came -/
def addS (s : List Int) (x : Int) : List Int := if x ∈ s then s else s ++ [x]
def encS (s : List Int) : List (Int × Value) := s.map fun x => (x, .agg #[])
def encE {β : Type} (vf : β → Value) (l : List (Int × β)) : List (Int × Value) := l.map fun p => (p.1, vf p.2)
abbrev OwnS (b : Nat) (s : List Int) : HProp := OwnM b (encS s)
abbrev OwnE {β : Type} (vf : β → Value) (b : Nat) (l : List (Int × β)) : HProp := OwnM b (encE vf l)
theorem keys_encS (s : List Int) : (encS s).map Prod.fst = s := by simp [encS, List.map_map, Function.comp_def]
theorem keys_encE {β : Type} (vf : β → Value) (l : List (Int × β)) : (encE vf l).map Prod.fst = l.map Prod.fst := by simp [encE, List.map_map, Function.comp_def]
theorem hasK_encS (s : List Int) (k : Int) : hasK (encS s) k = decide (k ∈ s) := by unfold hasK; rw [keys_encS]
theorem putK_encS (s : List Int) (k : Int) : putK (encS s) k (.agg #[]) = encS (addS s k) := by
  unfold addS
  by_cases h : k ∈ s
  · rw [if_pos h]
    induction s with
    | nil => simp at h
    | cons x s ih =>
      show putK ((x, Value.agg #[]) :: encS s) k _ = (x, Value.agg #[]) :: encS s
      simp only [putK]
      split
      · rename_i e; rw [e]
      · rename_i e; rw [ih ((List.mem_cons.1 h).resolve_left fun e' => e e'.symm)]
  · rw [if_neg h, putK_no (by rw [keys_encS]; exact h)]; simp [encS]
theorem getK_encS (s : List Int) (k : Int) : getK (.agg #[]) (encS s) k = .agg #[] := by
  induction s with
  | nil => rfl
  | cons x s ih => show (if x = k then _ else _) = _; split <;> first | rfl | exact ih
theorem addS_nodup {s : List Int} (h : s.Nodup) (x : Int) : (addS s x).Nodup := by
  unfold addS; split
  · exact h
  · rename_i hx; exact List.nodup_append.2 ⟨h, by simp, fun a ha b hb e => hx (by simp at hb; rw [← hb, ← e]; exact ha)⟩
theorem mem_addS {s : List Int} {x y : Int} : y ∈ addS s x ↔ y ∈ s ∨ y = x := by
  unfold addS; split
  · rename_i h; exact ⟨.inl, fun e => e.elim id fun e => e ▸ h⟩
  · simp
section
variable {w w' : World} {M : Hp} {H : List HProp} {b : Nat} {L : List (Int × Value)}
theorem St.getM (s : St w M (OwnM b L :: H)) : ∃ es clock, w.heap[b]? = some (.map es clock) ∧ MapEs es clock L ∧ St w M (blk b (.map es clock) :: H) := by
  obtain ⟨o, S⟩ := s.ex
  obtain ⟨⟨es, clock, rfl, h⟩, S⟩ := S.pure_
  exact ⟨es, clock, S.get, h, S⟩
theorem St.putM {es : Array MapEntry} {clock : Nat} (S : St w M (blk b (.map es clock) :: H)) (h : MapEs es clock L) : St w M (OwnM b L :: H) := S.imp fun g e => ⟨_, ⟨es, clock, rfl, h⟩, e⟩
theorem St.reM {L' : List (Int × Value)} (s : St w M (OwnM b L :: H)) (e : L = L') : St w M (OwnM b L' :: H) := e ▸ s
theorem St.nodM (s : St w M (OwnM b L :: H)) : (L.map Prod.fst).Nodup := by obtain ⟨_, _, _, h, _⟩ := s.getM; exact h.nd
theorem MapEs.none : MapEs #[] 0 [] := ⟨rfl, by simp, by simp, by simp⟩
/-- a map in frozen memory -/
def RdM (M : Hp) (v : Value) (L : List (Int × Value)) : Prop := ∃ b es clock, v = .map (some b) ∧ M b = some (.map es clock) ∧ MapEs es clock L
theorem RdM.le {M M' : Hp} {v : Value} (h : RdM M v L) (hM : Hp.le M M') : RdM M' v L := by
  obtain ⟨b, es, clock, e, h1, h2⟩ := h; exact ⟨b, es, clock, e, hM.2 _ _ h1, h2⟩
theorem RdM.one' {M : Hp} {v : Value} (h : RdM M v L) : v.oneCell' = true := by obtain ⟨_, _, _, rfl, _⟩ := h; rfl
theorem RdM.nodup {M : Hp} {v : Value} (h : RdM M v L) : (L.map Prod.fst).Nodup := by obtain ⟨_, _, _, _, _, h⟩ := h; exact h.nd
theorem St.freezeM (s : St w M (OwnM b L :: H)) : ∃ M', Hp.le M M' ∧ RdM M' (.map (some b)) L ∧ St w M' H := by
  obtain ⟨M', g, h1, h2, ⟨o, ⟨es, clock, rfl, h⟩, rfl⟩, S⟩ := s.freeze
  exact ⟨M', h1, ⟨b, es, clock, rfl, h2 b _ (by simp [Hp.one]), h⟩, S⟩
end
section
variable {r : Option Nat} {P : Program} {ops : Array Oper} {Q : Exit → Act → World → Prop} {a : Act} {w : World}
  {n : Nat} {ds : List Deferred} {l : List (Nat × Value)} {d : Nat} {op : Op} {ty t kt et : TypeId} {pos : String} {af : Array Edge} {gd : Option (Nat × Bool)} {x y z : Operand}
  {next : Act → World → Prop} {M : Hp} {H : List HProp} {zv : Value} {b : Nat} {k : Int} {v : Value} {L : List (Int × Value)}
theorem X_makeMap (E : Env a n ds l) (S : St w M H) (hd : Nat.blt d n = true)
    (kk : ∀ a w' b, Env a n ds ((d, .map (some b)) :: l) → St w' M (OwnM b [] :: H) → next a w') : (⟨some d, .makeMap t none, ty, pos, af, gd⟩ : Oper).wpIn (Fw r) 0 P a w next Q := by
  refine X_val E hd rfl (v := .map (some w.heap.size)) (w' := w.alloc (.map #[] 0)) ?_ fun a E => kk a _ _ E ((S.new (o := .map #[] 0) rfl).putM .none)
  simp [execOp, Instr.makeMap]
theorem X_makeMapR {i : Int} {κ : IntKind} (E : Env a n ds l) (S : St w M H) (hd : Nat.blt d n = true) (T : MapT P t kt et zv) (hx : opv l x = some (.int κ i))
    (kk : ∀ a w' b, Env a n ds ((d, .map (some b)) :: l) → St w' M (OwnM b [] :: H) → next a w') : (⟨some d, .makeMap t (some x), ty, pos, af, gd⟩ : Oper).wpIn (Fw r) 0 P a w next Q := by
  refine X_val E hd rfl (v := .map (some w.heap.size)) (w' := w.alloc (.map #[] 0)) ?_ fun a E => kk a _ _ E ((S.new (o := .map #[] 0) rfl).putM .none)
  simp [execOp, Instr.makeMap, E.eval hx, run_underlying T.und, asInt, asIntOf, Result.andThen]
theorem X_lookup {c : Bool} (E : Env a n ds l) (S : St w M (OwnM b L :: H)) (hd : Nat.blt d n = true) (T : MapT P t kt et zv) (hx : opv l x = some (.map (some b))) (hy : opv l y = some (.int .i64 k))
    (kk : ∀ a w', Env a n ds ((d, if c then .tuple #[getK zv L k, .bool (hasK L k)] else getK zv L k) :: l) → St w' M (OwnM b L :: H) → next a w') : (⟨some d, .lookup t x y c, ty, pos, af, gd⟩ : Oper).wpIn (Fw r) 0 P a w next Q := by
  obtain ⟨es, clock, hb, h, S1⟩ := S.getM
  have hr := run_lookup (k := k) T hb h c
  exact X_val E hd rfl (by simp only [execOp, E.eval hx, E.eval hy]; simp [hr]) fun a E => kk a _ E S
theorem X_update (E : Env a n ds l) (S : St w M (OwnM b L :: H)) (T : MapT P t kt et zv) (hx : opv l x = some (.map (some b))) (hy : opv l y = some (.int .i64 k)) (hz : opv l z = some v)
    (kk : ∀ a w', Env a n ds l → St w' M (OwnM b (putK L k v) :: H) → next a w') : (⟨none, .mapUpdate t x y z, ty, pos, af, gd⟩ : Oper).wpIn (Fw r) 0 P a w next Q := by
  obtain ⟨es, clock, hb, h, S1⟩ := S.getM
  obtain ⟨es', clock', hr, h'⟩ := run_update (v := v) (k := k) T hb h
  refine X_skip (w' := { w with heap := w.heap.setIfInBounds b (.map es' clock') }) E rfl ?_ fun a E => kk a _ E ((S1.set (o' := .map es' clock') ?_ ?_).putM h')
  · simp only [execOp, E.eval hx, E.eval hy, E.eval hz]; simp [hr]
  · have := (Array.getElem?_eq_some_iff.1 hb).1; simp [this]
  · intro c hc x hx; simp only [Array.getElem?_setIfInBounds]; rw [if_neg (Ne.symm hc)]; exact hx
theorem X_delete (E : Env a n ds l) (S : St w M (OwnM b L :: H)) (hd : Nat.blt d n = true) (T : MapT P t kt et zv) (hx : opv l x = some (.map (some b))) (hy : opv l y = some (.int .i64 k))
    (kk : ∀ a w', Env a n ds ((d, .tuple #[]) :: l) → St w' M (OwnM b (delK L k) :: H) → next a w') : (⟨some d, .call ⟨.builtin .delete, #[x, y], #[t, kt]⟩, ty, pos, af, gd⟩ : Oper).wpIn (Fw r) 0 P a w next Q := by
  obtain ⟨es, clock, hb, h, S1⟩ := S.getM
  obtain ⟨es', hr, h'⟩ := run_deleteM (ty := ty) (k := k) T hb h
  refine X_val E hd rfl (v := .tuple #[]) (w' := { w with heap := w.heap.setIfInBounds b (.map es' clock) }) ?_ fun a E => kk a _ E ((S1.set (o' := .map es' clock) ?_ ?_).putM h')
  · simp only [execOp, resolve, invoke, builtin]; simp [E.eval hx, E.eval hy, hr]
  · have := (Array.getElem?_eq_some_iff.1 hb).1; simp [this]
  · intro c hc x hx; simp only [Array.getElem?_setIfInBounds]; rw [if_neg (Ne.symm hc)]; exact hx
theorem R_lenO (E : Env a n ds l) (S : St w M (OwnM b L :: H)) (T : MapT P t kt et zv) (hx : opv l x = some (.map (some b))) :
    (execOp a.eval ⟨some d, .call ⟨.builtin .len, #[x], #[t]⟩, ty, pos, af, gd⟩).run P w = .ok (.value (.int .i64 ((L.length : Nat) : Int))) w := by
  obtain ⟨es, clock, hb, h, S1⟩ := S.getM
  simp only [execOp, resolve, invoke, builtin]; simp [E.eval hx, run_lenM T hb h]
theorem e_lenO (E : Env a n ds l) (S : St w M (OwnM b L :: H)) (T : MapT P t kt et zv) (hx : opv l x = some (.map (some b))) {r0 : Option Nat} {os0 : Array Oper} {Q0 : Exit → Act → World → Prop} {rest0 : List Oper} (k0 : ∀ a, Env a n ds ((d, (.int .i64 ((L.length : Nat) : Int))) :: l) → WL r0 P os0 Q0 rest0 a w) (hd0 : Nat.blt d n = true := by rfl) : WL r0 P os0 Q0 (⟨some d, .call ⟨.builtin .len, #[x], #[t]⟩, ty, pos, af, none⟩ :: rest0) a w := O_val E hd0 rfl (R_lenO E S T hx) k0
theorem R_lookupF {c : Bool} {mv : Value} (ag : agree M w) (F : RdM M mv L) (E : Env a n ds l) (T : MapT P t kt et zv) (hx : opv l x = some mv) (hy : opv l y = some (.int .i64 k)) :
    (execOp a.eval ⟨some d, .lookup t x y c, ty, pos, af, gd⟩).run P w = .ok (.value (if c then .tuple #[getK zv L k, .bool (hasK L k)] else getK zv L k)) w := by
  obtain ⟨b, es, clock, rfl, hb, h⟩ := F
  have hr := run_lookup (k := k) T (ag.2 _ _ hb) h c
  simp only [execOp, E.eval hx, E.eval hy]; simp [hr]
theorem e_lookupF {c : Bool} {mv : Value} (ag : agree M w) (F : RdM M mv L) (E : Env a n ds l) (T : MapT P t kt et zv) (hx : opv l x = some mv) (hy : opv l y = some (.int .i64 k)) {r0 : Option Nat} {os0 : Array Oper} {Q0 : Exit → Act → World → Prop} {rest0 : List Oper} (k0 : ∀ a, Env a n ds ((d, (if c then .tuple #[getK zv L k, .bool (hasK L k)] else getK zv L k)) :: l) → WL r0 P os0 Q0 rest0 a w) (hd0 : Nat.blt d n = true := by rfl) : WL r0 P os0 Q0 (⟨some d, .lookup t x y c, ty, pos, af, none⟩ :: rest0) a w := O_val E hd0 rfl (R_lookupF ag F E T hx hy) k0
theorem R_lenF {mv : Value} (ag : agree M w) (F : RdM M mv L) (E : Env a n ds l) (T : MapT P t kt et zv) (hx : opv l x = some mv) :
    (execOp a.eval ⟨some d, .call ⟨.builtin .len, #[x], #[t]⟩, ty, pos, af, gd⟩).run P w = .ok (.value (.int .i64 ((L.length : Nat) : Int))) w := by
  obtain ⟨b, es, clock, rfl, hb, h⟩ := F
  simp only [execOp, resolve, invoke, builtin]; simp [E.eval hx, run_lenM T (ag.2 _ _ hb) h]
theorem e_lenF {mv : Value} (ag : agree M w) (F : RdM M mv L) (E : Env a n ds l) (T : MapT P t kt et zv) (hx : opv l x = some mv) {r0 : Option Nat} {os0 : Array Oper} {Q0 : Exit → Act → World → Prop} {rest0 : List Oper} (k0 : ∀ a, Env a n ds ((d, (.int .i64 ((L.length : Nat) : Int))) :: l) → WL r0 P os0 Q0 rest0 a w) (hd0 : Nat.blt d n = true := by rfl) : WL r0 P os0 Q0 (⟨some d, .call ⟨.builtin .len, #[x], #[t]⟩, ty, pos, af, none⟩ :: rest0) a w := O_val E hd0 rfl (R_lenF ag F E T hx) k0
/-! sets -/
theorem X_lookupS {s : List Int} (E : Env a n ds l) (S : St w M (OwnS b s :: H)) (hd : Nat.blt d n = true) (T : MapT P t kt et (.agg #[])) (hx : opv l x = some (.map (some b))) (hy : opv l y = some (.int .i64 k))
    (kk : ∀ a w', Env a n ds ((d, .tuple #[.agg #[], .bool (decide (k ∈ s))]) :: l) → St w' M (OwnS b s :: H) → next a w') : (⟨some d, .lookup t x y true, ty, pos, af, gd⟩ : Oper).wpIn (Fw r) 0 P a w next Q :=
  X_lookup E S hd T hx hy fun a w' E S => kk a w' (by rw [getK_encS, hasK_encS] at E; exact E) S
theorem X_updateS {s : List Int} (E : Env a n ds l) (S : St w M (OwnS b s :: H)) (T : MapT P t kt et zv) (hx : opv l x = some (.map (some b))) (hy : opv l y = some (.int .i64 k)) (hz : opv l z = some (.agg #[]))
    (kk : ∀ a w', Env a n ds l → St w' M (OwnS b (addS s k) :: H) → next a w') : (⟨none, .mapUpdate t x y z, ty, pos, af, gd⟩ : Oper).wpIn (Fw r) 0 P a w next Q :=
  X_update E S T hx hy hz fun a w' E S => kk a w' E (by rw [putK_encS] at S; exact S)
theorem R_lookupFS {mv : Value} {s : List Int} (ag : agree M w) (F : RdM M mv (encS s)) (E : Env a n ds l) (T : MapT P t kt et (.agg #[])) (hx : opv l x = some mv) (hy : opv l y = some (.int .i64 k)) :
    (execOp a.eval ⟨some d, .lookup t x y true, ty, pos, af, gd⟩).run P w = .ok (.value (.tuple #[.agg #[], .bool (decide (k ∈ s))])) w := by
  have := R_lookupF (c := true) (d := d) (ty := ty) (pos := pos) (af := af) (gd := gd) ag F E T hx hy
  rw [getK_encS, hasK_encS] at this; exact this
theorem e_lookupFS {mv : Value} {s : List Int} (ag : agree M w) (F : RdM M mv (encS s)) (E : Env a n ds l) (T : MapT P t kt et (.agg #[])) (hx : opv l x = some mv) (hy : opv l y = some (.int .i64 k)) {r0 : Option Nat} {os0 : Array Oper} {Q0 : Exit → Act → World → Prop} {rest0 : List Oper} (k0 : ∀ a, Env a n ds ((d, (.tuple #[.agg #[], .bool (decide (k ∈ s))])) :: l) → WL r0 P os0 Q0 rest0 a w) (hd0 : Nat.blt d n = true := by rfl) : WL r0 P os0 Q0 (⟨some d, .lookup t x y true, ty, pos, af, none⟩ :: rest0) a w := O_val E hd0 rfl (R_lookupFS ag F E T hx hy) k0
/-! maps to values -/
theorem X_lookupE {β : Type} {vf : β → Value} {q : List (Int × β)} {zb : β} (E : Env a n ds l) (S : St w M (OwnE vf b q :: H)) (hd : Nat.blt d n = true) (T : MapT P t kt et (vf zb)) (hx : opv l x = some (.map (some b))) (hy : opv l y = some (.int .i64 k))
    (kk : ∀ a w', Env a n ds ((d, .tuple #[vf (getK zb q k), .bool (hasK q k)]) :: l) → St w' M (OwnE vf b q :: H) → next a w') : (⟨some d, .lookup t x y true, ty, pos, af, gd⟩ : Oper).wpIn (Fw r) 0 P a w next Q :=
  X_lookup E S hd T hx hy fun a w' E S => kk a w' (by unfold encE at E; rw [getK_map, hasK_map] at E; exact E) S
theorem X_lookupE1 {β : Type} {vf : β → Value} {q : List (Int × β)} {zb : β} (E : Env a n ds l) (S : St w M (OwnE vf b q :: H)) (hd : Nat.blt d n = true) (T : MapT P t kt et (vf zb)) (hx : opv l x = some (.map (some b))) (hy : opv l y = some (.int .i64 k))
    (kk : ∀ a w', Env a n ds ((d, vf (getK zb q k)) :: l) → St w' M (OwnE vf b q :: H) → next a w') : (⟨some d, .lookup t x y false, ty, pos, af, gd⟩ : Oper).wpIn (Fw r) 0 P a w next Q :=
  X_lookup E S hd T hx hy fun a w' E S => kk a w' (by unfold encE at E; rw [getK_map] at E; exact E) S
theorem X_updateE {β : Type} {vf : β → Value} {q : List (Int × β)} {u : β} (E : Env a n ds l) (S : St w M (OwnE vf b q :: H)) (T : MapT P t kt et zv) (hx : opv l x = some (.map (some b))) (hy : opv l y = some (.int .i64 k)) (hz : opv l z = some (vf u))
    (kk : ∀ a w', Env a n ds l → St w' M (OwnE vf b (putK q k u) :: H) → next a w') : (⟨none, .mapUpdate t x y z, ty, pos, af, gd⟩ : Oper).wpIn (Fw r) 0 P a w next Q :=
  X_update E S T hx hy hz fun a w' E S => kk a w' E (by unfold encE at S; rw [putK_map] at S; exact S)
theorem R_lookupFE {β : Type} {vf : β → Value} {q : List (Int × β)} {zb : β} {mv : Value} (ag : agree M w) (F : RdM M mv (encE vf q)) (E : Env a n ds l) (T : MapT P t kt et (vf zb)) (hx : opv l x = some mv) (hy : opv l y = some (.int .i64 k)) :
    (execOp a.eval ⟨some d, .lookup t x y true, ty, pos, af, gd⟩).run P w = .ok (.value (.tuple #[vf (getK zb q k), .bool (hasK q k)])) w := by
  have := R_lookupF (c := true) (d := d) (ty := ty) (pos := pos) (af := af) (gd := gd) ag F E T hx hy
  unfold encE at this; rw [getK_map, hasK_map] at this; exact this
theorem e_lookupFE {β : Type} {vf : β → Value} {q : List (Int × β)} {zb : β} {mv : Value} (ag : agree M w) (F : RdM M mv (encE vf q)) (E : Env a n ds l) (T : MapT P t kt et (vf zb)) (hx : opv l x = some mv) (hy : opv l y = some (.int .i64 k)) {r0 : Option Nat} {os0 : Array Oper} {Q0 : Exit → Act → World → Prop} {rest0 : List Oper} (k0 : ∀ a, Env a n ds ((d, (.tuple #[vf (getK zb q k), .bool (hasK q k)])) :: l) → WL r0 P os0 Q0 rest0 a w) (hd0 : Nat.blt d n = true := by rfl) : WL r0 P os0 Q0 (⟨some d, .lookup t x y true, ty, pos, af, none⟩ :: rest0) a w := O_val E hd0 rfl (R_lookupFE ag F E T hx hy) k0
theorem R_lookupFE1 {β : Type} {vf : β → Value} {q : List (Int × β)} {zb : β} {mv : Value} (ag : agree M w) (F : RdM M mv (encE vf q)) (E : Env a n ds l) (T : MapT P t kt et (vf zb)) (hx : opv l x = some mv) (hy : opv l y = some (.int .i64 k)) :
    (execOp a.eval ⟨some d, .lookup t x y false, ty, pos, af, gd⟩).run P w = .ok (.value (vf (getK zb q k))) w := by
  have := R_lookupF (c := false) (d := d) (ty := ty) (pos := pos) (af := af) (gd := gd) ag F E T hx hy
  unfold encE at this; rw [getK_map] at this; exact this
theorem e_lookupFE1 {β : Type} {vf : β → Value} {q : List (Int × β)} {zb : β} {mv : Value} (ag : agree M w) (F : RdM M mv (encE vf q)) (E : Env a n ds l) (T : MapT P t kt et (vf zb)) (hx : opv l x = some mv) (hy : opv l y = some (.int .i64 k)) {r0 : Option Nat} {os0 : Array Oper} {Q0 : Exit → Act → World → Prop} {rest0 : List Oper} (k0 : ∀ a, Env a n ds ((d, (vf (getK zb q k))) :: l) → WL r0 P os0 Q0 rest0 a w) (hd0 : Nat.blt d n = true := by rfl) : WL r0 P os0 Q0 (⟨some d, .lookup t x y false, ty, pos, af, none⟩ :: rest0) a w := O_val E hd0 rfl (R_lookupFE1 ag F E T hx hy) k0
theorem encS_len (s : List Int) : (encS s).length = s.length := List.length_map _
theorem encE_len {β : Type} (vf : β → Value) (q : List (Int × β)) : (encE vf q).length = q.length := List.length_map _
end
end Go.Sl
