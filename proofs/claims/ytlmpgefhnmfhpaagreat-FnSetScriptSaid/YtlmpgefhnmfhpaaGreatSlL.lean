import Derived.Test.YtlmpgefhnmfhpaaGreatSlK
import Derived.RangeFuncNested
set_option linter.unusedVariables false
namespace Go.Sl
open Go Go.RowKit
def yj (L : List Qm) : Qm := fun h => sat L h
theorem qu {L H : List Qm} : ∀ {h : Hq}, sat (L ++ H) h ↔ ∃ g1 g2, Hp.disj g1 g2 ∧ h = Hp.union g1 g2 ∧ sat L g1 ∧ sat H g2 := by
  induction L with
  | nil =>
    intro h
    constructor
    · intro s; exact ⟨Hp.emp, h, fun _ => .inl rfl, (Hp.emp_union h).symm, rfl, s⟩
    · rintro ⟨g1, g2, d, rfl, rfl, s⟩; rw [Hp.emp_union]; exact s
  | cons p L ih =>
    intro h
    constructor
    · rintro ⟨g1, g2, d, rfl, hp, s⟩
      obtain ⟨g3, g4, d', rfl, h1, h2⟩ := ih.1 s
      have ⟨d1, d2⟩ := Hp.disj_union_right.1 d
      exact ⟨Hp.union g1 g3, g4, Hp.disj_union_left.2 ⟨d2, d'⟩, (Hp.union_assoc _ _ _).symm, ⟨g1, g3, d1, rfl, hp, h1⟩, h2⟩
    · rintro ⟨g1, g2, d, rfl, ⟨g3, g4, d', rfl, hp, h1⟩, h2⟩
      have ⟨d1, d2⟩ := Hp.disj_union_left.1 d
      exact ⟨g3, Hp.union g4 g2, Hp.disj_union_right.2 ⟨d', d1⟩, Hp.union_assoc _ _ _, hp, ih.2 ⟨g4, g2, d2, rfl, h1, h2⟩⟩
theorem St.pack {w : World} {M : Hp} (L : List Qm) {H : List Qm} (s : St w M (L ++ H)) : St w M (yj L :: H) := s.of_sat fun _ h => qu.1 h
theorem St.unpack {w : World} {M : Hp} {L H : List Qm} (s : St w M (yj L :: H)) : St w M (L ++ H) := s.of_sat fun _ h => qu.2 h
theorem St.unpack2 {w : World} {M : Hp} {p q : Qm} {H : List Qm} (s : St w M (yj [p, q] :: H)) : St w M (p :: q :: H) := s.unpack
theorem St.empty {w : World} {M : Hp} {H : List Qm} (s : St w M H) : St w M (yj [] :: H) := s.pack []
def mk (D : Nat) : Deferred := { target := .collected D, args := #[] }
def dfb (D : Nat) : Qm := Qh D (.deferred (some []))
def WE (Ds : List Nat) : Qm := yj (Ds.map dfb)
def lp (lb : Nat) (rec : Loop) (s : LoopState) (p : Option Code) : Qm := Qh lb (.loop { rec with state := s, pending := p })
theorem St.put {w : World} {M : Hp} {l : Nat} {o : Obj} {H : List Qm} (s : St w M (Qh l o :: H)) (o' : Obj) : St (w.putObj l o') M (Qh l o' :: H) :=
  s.set (World.putObj_heap_same (Array.getElem?_eq_some_iff.1 s.get).1) (fun _ h _ e => (World.putObj_heap_other h).trans e)
section ends
variable {P : Program} {fn : Func} {R : Ending → World → Prop} {a : Act} {w : World} {n : Nat} {l : List (Nat × Value)} {M : Hp} {H : List Qm}
theorem vl {tmps : Array Value} {v : Value} (h : ∀ w', St w' M H → (results fn tmps).run P w' = .ok v w') (hR : ∀ w', St w' M H → R (.returned v) w') : ∀ (Ds : List Nat) (w : World), St w M (Ds.map dfb ++ H) →
    LeavesInM (Fw none) 0 P fn tmps R (Ds.map mk) .returning w
  | [], w, S => ⟨_, h w S, hR w S⟩
  | D :: Ds, w, S => by
    have S : St w M (Qh D (.deferred (some [])) :: (Ds.map dfb ++ H)) := S
    exact ⟨by simp, .inl ⟨D, _, rfl, run_takeDeferred S.get, vl h hR Ds _ (S.put _).drop⟩⟩
theorem F_ofMS {Ds : List Nat} {v : Value} (E : Env a n (Ds.map mk) l) (S : St w M (WE Ds :: H)) (h : ∀ w', St w' M H → (results fn a.tmps).run P w' = .ok v w') (hR : ∀ w', St w' M H → R (.returned v) w') : Vj P fn R .ret a w := by
  show LeavesInM _ _ _ _ _ _ a.defers .returning w
  rw [E.dfr]; exact vl h hR Ds w S.unpack
theorem Env.getD' {ds : List Deferred} (E : Env a n ds l) {t : Tmp} {v : Value} (h : look l t = some v) : a.tmps.getD t Go.undef = v := E.eval (o := .tmp t) h
end ends
theorem cells_one {u : Value} (h : u.oneCell' = true) : u.cells = #[u] := by cases u <;> first | rfl | (simp [Value.oneCell'] at h)
theorem JN.one' {α : Type} {sz : Nat} {R : Hp → List Value → α → Prop} {M : Hp} {v : Value} {l : List α} (h : JN sz R M v l) : v.oneCell' = true := by obtain ⟨_, _, rfl, _⟩ := h; rfl
theorem St.oneI {w : World} {M : Hp} {H : List Qm} {e : TypeId} {v : Value} {l : List Int} (s : St w M (Zi e v l :: H)) : v.oneCell' = true := by
  obtain ⟨A, c, e, _⟩ := St.lenC s; rw [e]; rfl
section
variable {P : Program} {α : Type}
def JM (J : List α → Hp → Qm → Prop) : Prop := ∀ p M M' c, Hp.le M M' → J p M c → J p M' c
def Wd (P : Program) (y : Value) (M0 : Hp) (RV : Hp → List Value → α → Prop) (l : List α) (J X : List α → Hp → Qm → Prop) : Prop :=
  y.oneCell' = true ∧ ∀ pre x vs w M c H, Hp.le M0 M → pre ++ [x] <+: l → RV M vs x → J pre M c → St w M (c :: H) →
    Yd P y vs w (fun r w' => ∃ M' c' go, Hp.le M M' ∧ r = .bool go ∧ (if go then J (pre ++ [x]) M' c' else X (pre ++ [x]) M' c') ∧ St w' M' (c' :: H))
theorem Wd.le {y : Value} {M0 M1 : Hp} {RV : Hp → List Value → α → Prop} {l : List α} {J X : List α → Hp → Qm → Prop} (h : Wd P y M0 RV l J X) (hM : Hp.le M0 M1) : Wd P y M1 RV l J X :=
  ⟨h.1, fun pre x vs w M c H h1 => h.2 pre x vs w M c H (hM.trans h1)⟩
def CallF (P : Program) (sv : Value) (args : List Value) (w : World) (R : Value → World → Prop) : Prop :=
  ∃ gf cap, sv = .func (.func gf) #[] cap ∧ (∀ args w, (callFunc gf args).run P w = .ok (.enter gf args) w) ∧ Calls P gf (args ++ cap.toList).toArray w (fun e w' => ∃ v, e = .returned v ∧ R v w')
theorem CallF.call {sv : Value} {args : List Value} {w : World} {R : Value → World → Prop} (h : CallF P sv args w R) : Yd P sv args w R := by
  obtain ⟨gf, cap, rfl, hc, h⟩ := h
  exact Yd.func hc (by simpa using h)
def vS (P : Program) (sv : Value) (M0 : Hp) (RV : Hp → List Value → α → Prop) (l : List α) : Prop :=
  sv.oneCell' = true ∧ ∀ (y : Value) (J X : List α → Hp → Qm → Prop), JM J → ∀ M1, Hp.le M0 M1 → Wd P y M1 RV l J X → ∀ w M c H, Hp.le M1 M → J [] M c → St w M (c :: H) →
    CallF P sv [y] w (fun _ w' => ∃ M' c', Hp.le M M' ∧ (J l M' c' ∨ ∃ p, p <+: l ∧ X p M' c') ∧ St w' M' (c' :: H))
theorem vS.le {sv : Value} {M0 M1 : Hp} {RV : Hp → List Value → α → Prop} {l : List α} (h : vS P sv M0 RV l) (hM : Hp.le M0 M1) : vS P sv M1 RV l :=
  ⟨h.1, fun y J X hJ M2 h2 => h.2 y J X hJ M2 (hM.trans h2)⟩
def PF2B (P : Program) (fv : Value) (M : Hp) (f : Int → Int → Bool) : Prop := fv.oneCell' = true ∧ ∀ x i : Int, Pu P fv M [.int .i64 x, .int .i64 i] (fun r _ => r = .bool (f x i))
def PF1B (P : Program) (fv : Value) (M : Hp) (f : Int → Bool) : Prop := fv.oneCell' = true ∧ ∀ x : Int, Pu P fv M [.int .i64 x] (fun r _ => r = .bool (f x))
def PF2I (P : Program) (fv : Value) (M : Hp) (f : Int → Int → Int) : Prop := fv.oneCell' = true ∧ ∀ x i : Int, Pu P fv M [.int .i64 x, .int .i64 i] (fun r _ => r = .int .i64 (f x i))
def PF1I (P : Program) (fv : Value) (M : Hp) (f : Int → Int) : Prop := fv.oneCell' = true ∧ ∀ x : Int, Pu P fv M [.int .i64 x] (fun r _ => r = .int .i64 (f x))
def PF3I (P : Program) (fv : Value) (M : Hp) (f : Int → Int → Int → Int) : Prop := fv.oneCell' = true ∧ ∀ s x i : Int, Pu P fv M [.int .i64 s, .int .i64 x, .int .i64 i] (fun r _ => r = .int .i64 (f s x i))
theorem PF3I.le {fv : Value} {M M' : Hp} {f : Int → Int → Int → Int} (h : PF3I P fv M f) (hM : Hp.le M M') : PF3I P fv M' f := ⟨h.1, fun s x i => (h.2 s x i).le hM⟩
theorem PF2B.le {fv : Value} {M M' : Hp} {f : Int → Int → Bool} (h : PF2B P fv M f) (hM : Hp.le M M') : PF2B P fv M' f := ⟨h.1, fun x i => (h.2 x i).le hM⟩
theorem PF1B.le {fv : Value} {M M' : Hp} {f : Int → Bool} (h : PF1B P fv M f) (hM : Hp.le M M') : PF1B P fv M' f := ⟨h.1, fun x => (h.2 x).le hM⟩
theorem PF2I.le {fv : Value} {M M' : Hp} {f : Int → Int → Int} (h : PF2I P fv M f) (hM : Hp.le M M') : PF2I P fv M' f := ⟨h.1, fun x i => (h.2 x i).le hM⟩
theorem PF1I.le {fv : Value} {M M' : Hp} {f : Int → Int} (h : PF1I P fv M f) (hM : Hp.le M M') : PF1I P fv M' f := ⟨h.1, fun x => (h.2 x).le hM⟩
def PF2L (P : Program) (fv : Value) (M : Hp) (f : Int → Int → List Int) : Prop := fv.oneCell' = true ∧ ∀ x i : Int, Pu P fv M [.int .i64 x, .int .i64 i] (fun r M' => Zh M' r (f x i))
def PF2Q (P : Program) (fv : Value) (M : Hp) (f : Int → Int → List Int) : Prop := fv.oneCell' = true ∧ ∀ x i : Int, Pu P fv M [.int .i64 x, .int .i64 i] (fun r M' => vS P r M' Wn (f x i))
theorem PF2L.le {fv : Value} {M M' : Hp} {f : Int → Int → List Int} (h : PF2L P fv M f) (hM : Hp.le M M') : PF2L P fv M' f := ⟨h.1, fun x i => (h.2 x i).le hM⟩
theorem PF2Q.le {fv : Value} {M M' : Hp} {f : Int → Int → List Int} (h : PF2Q P fv M f) (hM : Hp.le M M') : PF2Q P fv M' f := ⟨h.1, fun x i => (h.2 x i).le hM⟩
theorem Yd.yield {lb : Nat} {rec : Loop} {vs : List Value} {w : World} {M : Hp} {H : List Qm} {R : Value → World → Prop} (S : St w M (lp lb rec .ready none :: H)) (hl : vs.length = rec.params.size)
    (h : WP (some lb) P rec.assign (Exit.then (fun a₁ w₁ => ∃ w₂, (Instr.beginRound lb).run P w₁ = .ok () w₂ ∧ WP (some lb) P rec.body (roundPost P lb (fun e w' => ∃ v, e = .returned v ∧ R v w')) a₁ w₂) (fun _ _ _ => False))
      { tmps := (rec.params.zip vs.toArray).foldl (fun t (p, v) => t.setIfInBounds p v) rec.tmps, defers := [] } w) : Yd P (.func (.yield lb) #[] #[]) vs w R := by
  intro r o c f a next Q h1 h2 h3 h4 h5
  refine ⟨fun _ _ => trivial, ?_⟩
  rw [Zl (by rw [h1]; rfl)]
  have e4 : c.args.map a.eval = vs.toArray := by rw [← h4, ← Array.toList_map, Array.toArray_toList]
  have hrun := run_yield (P := P) (args := vs.toArray) S.get (by simpa using hl)
  have : (execOp a.eval o).run P w = .ok (.round lb rec.fn ((rec.params.zip vs.toArray).foldl (fun t (p, v) => t.setIfInBounds p v) rec.tmps) rec.assign rec.body) w := by
    simp only [execOp, h1, resolve, h2, h3, e4, Deferred.ofValue]
    simp [invoke, hrun]
  rw [this]
  refine ⟨fun h => by simp [zd] at h, ?_⟩
  refine (roundIn_of_wpIn (F := Fw r) trivial h).mono fun e w' ⟨v, he, hR⟩ => ?_
  subst he; exact h5 v w' hR
def RQ (lb : Nat) (rec : Loop) (J : List α → Hp → Qm → Prop) (X : Code → List α → Hp → Qm → Prop) (p : List α) (M : Hp) (G : List Qm) : Exit → Act → World → Prop
  | .normal, _, w => ∃ M' c, Hp.le M M' ∧ J p M' c ∧ St w M' (lp lb rec .busy none :: c :: G)
  | .ret, _, w => ∃ M' c, Hp.le M M' ∧ X .ret p M' c ∧ St w M' (lp lb rec .busy none :: c :: G)
  | .exit id, _, w => ∃ M' c, Hp.le M M' ∧ X (.exit id) p M' c ∧ St w M' (lp lb rec .busy none :: c :: G)
  | _, _, _ => False
def J' (lb : Nat) (rec : Loop) (J : List α → Hp → Qm → Prop) : List α → Hp → Qm → Prop := fun p M c' => ∃ c, c' = yj [lp lb rec .ready none, c] ∧ J p M c
def X' (lb : Nat) (rec : Loop) (X : Code → List α → Hp → Qm → Prop) : List α → Hp → Qm → Prop := fun p M c' => ∃ cd c, c' = yj [lp lb rec .done (some cd), c] ∧ X cd p M c
theorem RQ_post {lb : Nat} {rec : Loop} {J : List α → Hp → Qm → Prop} {X : Code → List α → Hp → Qm → Prop} {p : List α} {M : Hp} {G : List Qm} : ∀ (e : Exit) (a : Act) (w : World), RQ lb rec J X p M G e a w →
    roundPost P lb (fun e w' => ∃ v, e = .returned v ∧ ∃ M' c' go, Hp.le M M' ∧ v = .bool go ∧ (if go then J' lb rec J p M' c' else X' lb rec X p M' c') ∧ St w' M' (c' :: G)) e a w := by
  intro e a w h
  cases e with
  | normal => obtain ⟨M', c, h1, h2, S⟩ := h; exact ⟨_, _, run_endRound none S.get, _, rfl, M', _, true, h1, rfl, ⟨c, rfl, h2⟩, St.pack [lp lb rec .ready none, c] (S.put _)⟩
  | ret => obtain ⟨M', c, h1, h2, S⟩ := h; exact ⟨_, _, run_endRound (some .ret) S.get, _, rfl, M', _, false, h1, rfl, ⟨_, c, rfl, h2⟩, St.pack [lp lb rec .done (some .ret), c] (S.put _)⟩
  | exit id => obtain ⟨M', c, h1, h2, S⟩ := h; exact ⟨_, _, run_endRound (some (.exit id)) S.get, _, rfl, M', _, false, h1, rfl, ⟨_, c, rfl, h2⟩, St.pack [lp lb rec .done (some (.exit id)), c] (S.put _)⟩
  | goto t => exact h.elim
  | panic ch => exact h.elim
  | outgrown => exact h.elim
def binds (ps : List Tmp) (vs : List Value) (l : List (Nat × Value)) : List (Nat × Value) := (ps.zip vs).foldl (fun e x => (x.1, x.2) :: e) l
theorem Env.binds {n : Nat} : ∀ (ps : List Tmp) (vs : List Value) {tm : Array Value} {l : List (Nat × Value)}, Env { tmps := tm, defers := [] } n [] l → (∀ p ∈ ps, p < n) →
    Env { tmps := (ps.zip vs).foldl (fun t x => t.setIfInBounds x.1 x.2) tm, defers := [] } n [] (Sl.binds ps vs l)
  | [], vs, tm, l, E, _ => E
  | p :: ps, [], tm, l, E, _ => E
  | p :: ps, v :: vs, tm, l, E, h => Env.binds ps vs (E.put (h p (List.mem_cons_self ..)) v) fun q hq => h q (List.mem_cons_of_mem _ hq)
def vt (P : Program) (ps : Array Tmp) (assign body : Code) (n : Nat) (env : List (Nat × Value)) (M0 : Hp) (RV : Hp → List Value → α → Prop) (l : List α) (J : List α → Hp → Qm → Prop) (X : Code → List α → Hp → Qm → Prop) : Prop :=
  ∀ lb rec pre x vs a w M c G, Hp.le M0 M → pre ++ [x] <+: l → RV M vs x → J pre M c → Env a n [] (binds ps.toList vs env) → St w M (lp lb rec .ready none :: c :: G) →
    WP (some lb) P assign (Exit.then (fun a₁ w₁ => ∃ w₂, (Instr.beginRound lb).run P w₁ = .ok () w₂ ∧ WP (some lb) P body (RQ lb rec J X (pre ++ [x]) M G) a₁ w₂) (fun _ _ _ => False)) a w
theorem vt.yield {ps : Array Tmp} {assign body : Code} {n : Nat} {env : List (Nat × Value)} {M0 : Hp} {RV : Hp → List Value → α → Prop} {l : List α} {J : List α → Hp → Qm → Prop} {X : Code → List α → Hp → Qm → Prop}
    (h : vt P ps assign body n env M0 RV l J X) (hRV : ∀ M vs x, RV M vs x → vs.length = ps.size) (hps : ∀ p ∈ ps.toList, p < n) {a : Act} {ds : List Deferred} (E : Env a n ds env) {lb : Nat} {rec : Loop} (hr : rec.tmps = a.tmps ∧ rec.params = ps ∧ rec.assign = assign ∧ rec.body = body) :
    Wd P (.func (.yield lb) #[] #[]) M0 RV l (J' lb rec J) (X' lb rec X) := by
  obtain ⟨r1, r2, r3, r4⟩ := hr
  refine ⟨rfl, ?_⟩
  rintro pre x vs w M c' H hM hp hR ⟨c, rfl, hJ⟩ S
  have S := S.unpack2
  refine Yd.yield S (by rw [r2]; exact hRV _ _ _ hR) ?_
  rw [r1, r2, r3, r4]
  have E0 : Env { tmps := a.tmps, defers := [] } n [] env := ⟨E.size, rfl, E.get⟩
  have E1 := Env.binds ps.toList vs E0 hps
  have e : (ps.zip vs.toArray).foldl (fun t (x : Tmp × Value) => t.setIfInBounds x.1 x.2) a.tmps = (ps.toList.zip vs).foldl (fun t x => t.setIfInBounds x.1 x.2) a.tmps := by
    rw [← Array.foldl_toList, Array.toList_zip]
  have key := h lb rec pre x vs _ w M c H hM hp hR hJ E1 S
  rw [← e] at key
  refine wpIn_mono key fun e a w hq => ?_
  cases e with
  | normal => obtain ⟨w₂, h1, h2⟩ := hq; exact ⟨w₂, h1, wpIn_mono h2 RQ_post⟩
  | exit _ => exact hq
  | goto _ => exact hq
  | ret => exact hq
  | panic _ => exact hq
  | outgrown => exact hq
end
end Go.Sl
