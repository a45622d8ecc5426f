import Derived.Test.YtejfcglfjdfneaaSlK
import Derived.RangeFuncNested
/-! Ranges over functions: sequences, the rounds of a loop, and what yield does. -/
set_option linter.unusedVariables false
namespace Go.Sl
open Go Go.RowKit
def bigs (L : List HProp) : HProp := fun h => sat L h
theorem sat_append {L H : List HProp} : ∀ {h : Hq}, sat (L ++ H) h ↔ ∃ g1 g2, Hp.disj g1 g2 ∧ h = Hp.union g1 g2 ∧ sat L g1 ∧ sat H g2 := by
  induction L with
  | nil =>
    intro h
    constructor
    · intro s; exact ⟨Hp.emp, h, fun _ => .inl rfl, (Hp.emp_union h).symm, rfl, s⟩
    · rintro ⟨g1, g2, d, rfl, rfl, s⟩; rw [Hp.emp_union]; exact s
  | cons p L ih =>
    intro h
    constructor
    · rintro ⟨g1, g2, d, rfl, hp, s⟩
      obtain ⟨g3, g4, d', rfl, h1, h2⟩ := ih.1 s
      have ⟨d1, d2⟩ := Hp.disj_union_right.1 d
      exact ⟨Hp.union g1 g3, g4, Hp.disj_union_left.2 ⟨d2, d'⟩, (Hp.union_assoc _ _ _).symm, ⟨g1, g3, d1, rfl, hp, h1⟩, h2⟩
    · rintro ⟨g1, g2, d, rfl, ⟨g3, g4, d', rfl, hp, h1⟩, h2⟩
      have ⟨d1, d2⟩ := Hp.disj_union_left.1 d
      exact ⟨g3, Hp.union g4 g2, Hp.disj_union_right.2 ⟨d', d1⟩, Hp.union_assoc _ _ _, hp, ih.2 ⟨g4, g2, d2, rfl, h1, h2⟩⟩
theorem St.pack {w : World} {M : Hp} (L : List HProp) {H : List HProp} (s : St w M (L ++ H)) : St w M (bigs L :: H) := s.of_sat fun _ h => sat_append.1 h
theorem St.unpack {w : World} {M : Hp} {L H : List HProp} (s : St w M (bigs L :: H)) : St w M (L ++ H) := s.of_sat fun _ h => sat_append.2 h
theorem St.unpack1 {w : World} {M : Hp} {p : HProp} {H : List HProp} (s : St w M (bigs [p] :: H)) : St w M (p :: H) := s.unpack
theorem St.unpack2 {w : World} {M : Hp} {p q : HProp} {H : List HProp} (s : St w M (bigs [p, q] :: H)) : St w M (p :: q :: H) := s.unpack
theorem St.unpack3 {w : World} {M : Hp} {p q r : HProp} {H : List HProp} (s : St w M (bigs [p, q, r] :: H)) : St w M (p :: q :: r :: H) := s.unpack
theorem St.unpack4 {w : World} {M : Hp} {p q r t : HProp} {H : List HProp} (s : St w M (bigs [p, q, r, t] :: H)) : St w M (p :: q :: r :: t :: H) := s.unpack
theorem St.empty {w : World} {M : Hp} {H : List HProp} (s : St w M H) : St w M (bigs [] :: H) := s.pack []
def mk (D : Nat) : Deferred := { target := .collected D, args := #[] }
def dfb (D : Nat) : HProp := blk D (.deferred (some []))
def mks (Ds : List Nat) : HProp := bigs (Ds.map dfb)
def lp (lb : Nat) (rec : Loop) (s : LoopState) (p : Option Code) : HProp := blk lb (.loop { rec with state := s, pending := p })
theorem St.mks_cons {w : World} {M : Hp} {D : Nat} {Ds : List Nat} {H : List HProp} (s : St w M (dfb D :: mks Ds :: H)) : St w M (mks (D :: Ds) :: H) := by
  have := s.swap.unpack
  exact St.pack ((D :: Ds).map dfb) (this.perm (List.perm_middle (a := dfb D) (l₁ := Ds.map dfb) (l₂ := H)))
theorem St.put {w : World} {M : Hp} {l : Nat} {o : Obj} {H : List HProp} (s : St w M (blk l o :: H)) (o' : Obj) : St (w.putObj l o') M (blk l o' :: H) :=
  s.set (World.putObj_heap_same (Array.getElem?_eq_some_iff.1 s.get).1) (fun _ h _ e => (World.putObj_heap_other h).trans e)
section ends
variable {P : Program} {fn : Func} {R : Ending → World → Prop} {a : Act} {w : World} {n : Nat} {l : List (Nat × Value)} {M : Hp} {H : List HProp}
theorem leavesM {tmps : Array Value} {v : Value} (h : ∀ w', St w' M H → (results fn tmps).run P w' = .ok v w') (hR : ∀ w', St w' M H → R (.returned v) w') : ∀ (Ds : List Nat) (w : World), St w M (Ds.map dfb ++ H) →
    LeavesInM (Fw none) 0 P fn tmps R (Ds.map mk) .returning w
  | [], w, S => ⟨_, h w S, hR w S⟩
  | D :: Ds, w, S => by
    have S : St w M (blk D (.deferred (some [])) :: (Ds.map dfb ++ H)) := S
    exact ⟨by simp, .inl ⟨D, _, rfl, run_takeDeferred S.get, leavesM h hR Ds _ (S.put _).drop⟩⟩
theorem F_ofMS {Ds : List Nat} {v : Value} (E : Env a n (Ds.map mk) l) (S : St w M (mks Ds :: H)) (h : ∀ w', St w' M H → (results fn a.tmps).run P w' = .ok v w') (hR : ∀ w', St w' M H → R (.returned v) w') : FPost P fn R .ret a w := by
  show LeavesInM _ _ _ _ _ _ a.defers .returning w
  rw [E.dfr]; exact leavesM h hR Ds w S.unpack
theorem F_ofM {Ds : List Nat} {v : Value} (E : Env a n (Ds.map mk) l) (S : St w M (mks Ds :: H)) (h : ∀ w, (results fn a.tmps).run P w = .ok v w) (hR : ∀ w', St w' M H → R (.returned v) w') : FPost P fn R .ret a w := F_ofMS E S (fun w _ => h w) hR
theorem run_cellvar {t : TypeId} {b : Nat} {v : Value} {e : TypeId} {fr : Nat × Nat} (hg : ∀ w, (isAgg t).run P w = .ok false w) (hc : w.heap[b]? = some (.cells #[v] e fr)) : (loadVar t ⟨b, 0, none⟩).run P w = .ok v w := by
  have : w.cell? ⟨b, 0, none⟩ = some v := by simp [World.cell?, hc]
  simp [loadVar, hg, this]
theorem F_retC1 {Ds : List Nat} {t : Tmp} {ty e : TypeId} {b : Nat} {v : Value} (E : Env a n (Ds.map mk) l) (S : St w M (mks Ds :: blk b (.cells #[v] e) :: H)) (h : fn.results = #[.cell t ty]) (hp : look l t = some (.pointer (some ⟨b, 0, none⟩))) (hg : ∀ w, (isAgg ty).run P w = .ok false w)
    (hR : ∀ w', St w' M (blk b (.cells #[v] e) :: H) → R (.returned v) w') : FPost P fn R .ret a w :=
  F_ofMS E S (fun w S => by
    have h1 := E.eval (o := .tmp t) hp
    simp only [Act.eval, Array.getD_eq_getD_getElem?] at h1
    simp [results, h, h1, asAddr, run_cellvar hg S.get]) hR
theorem F_retC2 {Ds : List Nat} {t t' : Tmp} {ty ty' e e' : TypeId} {b b' : Nat} {v v' : Value} (E : Env a n (Ds.map mk) l) (S : St w M (mks Ds :: blk b (.cells #[v] e) :: blk b' (.cells #[v'] e') :: H)) (h : fn.results = #[.cell t ty, .cell t' ty'])
    (hp : look l t = some (.pointer (some ⟨b, 0, none⟩))) (hp' : look l t' = some (.pointer (some ⟨b', 0, none⟩))) (hg : ∀ w, (isAgg ty).run P w = .ok false w) (hg' : ∀ w, (isAgg ty').run P w = .ok false w)
    (hR : ∀ w', St w' M (blk b (.cells #[v] e) :: blk b' (.cells #[v'] e') :: H) → R (.returned (.tuple #[v, v'])) w') : FPost P fn R .ret a w :=
  F_ofMS E S (fun w S => by
    have h1 := E.eval (o := .tmp t) hp
    have h2 := E.eval (o := .tmp t') hp'
    simp only [Act.eval, Array.getD_eq_getD_getElem?] at h1 h2
    simp [results, h, h1, h2, asAddr, run_cellvar hg S.get, run_cellvar hg' S.swap.get]) hR
theorem F_retM0 {Ds : List Nat} (E : Env a n (Ds.map mk) l) (S : St w M (mks Ds :: H)) (h : fn.results = #[]) (hR : ∀ w', St w' M H → R (.returned (.tuple #[])) w') : FPost P fn R .ret a w := F_ofM E S (fun w => results_none h _ _ w) hR
theorem Env.getD' {ds : List Deferred} (E : Env a n ds l) {t : Tmp} {v : Value} (h : look l t = some v) : a.tmps.getD t Go.undef = v := E.eval (o := .tmp t) h
theorem F_retM1 {Ds : List Nat} {t : Tmp} {v : Value} (E : Env a n (Ds.map mk) l) (S : St w M (mks Ds :: H)) (h : fn.results = #[.tmp t]) (hv : look l t = some v) (hR : ∀ w', St w' M H → R (.returned v) w') : FPost P fn R .ret a w :=
  F_ofM E S (fun w => by rw [results_tmp h, E.getD' hv]) hR
theorem F_retM2 {Ds : List Nat} {t t' : Tmp} {v v' : Value} (E : Env a n (Ds.map mk) l) (S : St w M (mks Ds :: H)) (h : fn.results = #[.tmp t, .tmp t']) (hv : look l t = some v) (hv' : look l t' = some v') (hR : ∀ w', St w' M H → R (.returned (.tuple #[v, v'])) w') : FPost P fn R .ret a w :=
  F_ofM E S (fun w => by rw [results_tmp2 h, E.getD' hv, E.getD' hv']) hR
end ends
theorem St.blk_int {w : World} {M : Hp} {H : List HProp} {b : Nat} {t : TypeId} {κ : IntKind} {i j : Int} (s : St w M (blk b (.cells #[.int κ i] t) :: H)) (h : i = j) : St w M (blk b (.cells #[.int κ j] t) :: H) := h ▸ s
theorem St.blk_bool {w : World} {M : Hp} {H : List HProp} {b : Nat} {t : TypeId} {i j : Bool} (s : St w M (blk b (.cells #[.bool i] t) :: H)) (h : i = j) : St w M (blk b (.cells #[.bool j] t) :: H) := h ▸ s
theorem cells_one {u : Value} (h : u.oneCell' = true) : u.cells = #[u] := by cases u <;> first | rfl | (simp [Value.oneCell'] at h)
theorem RdS.one' {α : Type} {sz : Nat} {R : Hp → List Value → α → Prop} {M : Hp} {v : Value} {l : List α} (h : RdS sz R M v l) : v.oneCell' = true := by obtain ⟨_, _, rfl, _⟩ := h; rfl
theorem St.oneI {w : World} {M : Hp} {H : List HProp} {e : TypeId} {v : Value} {l : List Int} (s : St w M (OwnI e v l :: H)) : v.oneCell' = true := by
  obtain ⟨A, c, e, _⟩ := St.lenC s; rw [e]; rfl
theorem prefix_lt {α : Type} {p l : List α} {x : α} (h : p ++ [x] <+: l) : p.length < l.length := by have := h.length_le; simp at this; omega
theorem J_eq {α : Type} {J : List α → Hp → HProp → Prop} {p p' : List α} {M : Hp} {c : HProp} (h : J p M c) (e : p = p') : J p' M c := e ▸ h
theorem pre_take {α : Type} {l : List α} {k : Nat} {x : α} (h : l[k]? = some x) : l.take k ++ [x] = l.take (k + 1) := by rw [List.take_add_one, h]; rfl
theorem pre_take_lt {α : Type} {l : List α} {k : Nat} {x : α} (h : l[k]? = some x) : l.take k ++ [x] <+: l := by rw [pre_take h]; exact List.take_prefix _ _
/-! ### Sequences -/
section
variable {P : Program} {α : Type}
/-- what a consumer keeps, as the frozen memory grows -/
def JM (J : List α → Hp → HProp → Prop) : Prop := ∀ p M M' c, Hp.le M M' → J p M c → J p M' c
/-- yield's contract: after each item on the way along l it goes on, with J, or stops, with X -/
def YieldOK (P : Program) (y : Value) (M0 : Hp) (RV : Hp → List Value → α → Prop) (l : List α) (J X : List α → Hp → HProp → Prop) : Prop :=
  y.oneCell' = true ∧ ∀ pre x vs w M c H, Hp.le M0 M → pre ++ [x] <+: l → RV M vs x → J pre M c → St w M (c :: H) →
    CallV P y vs w (fun r w' => ∃ M' c' go, Hp.le M M' ∧ r = .bool go ∧ (if go then J (pre ++ [x]) M' c' else X (pre ++ [x]) M' c') ∧ St w' M' (c' :: H))
theorem YieldOK.le {y : Value} {M0 M1 : Hp} {RV : Hp → List Value → α → Prop} {l : List α} {J X : List α → Hp → HProp → Prop} (h : YieldOK P y M0 RV l J X) (hM : Hp.le M0 M1) : YieldOK P y M1 RV l J X :=
  ⟨h.1, fun pre x vs w M c H h1 => h.2 pre x vs w M c H (hM.trans h1)⟩
def CallF (P : Program) (sv : Value) (args : List Value) (w : World) (R : Value → World → Prop) : Prop :=
  ∃ gf cap, sv = .func (.func gf) #[] cap ∧ (∀ args w, (callFunc gf args).run P w = .ok (.enter gf args) w) ∧ Calls P gf (args ++ cap.toList).toArray w (fun e w' => ∃ v, e = .returned v ∧ R v w')
theorem CallF.call {sv : Value} {args : List Value} {w : World} {R : Value → World → Prop} (h : CallF P sv args w R) : CallV P sv args w R := by
  obtain ⟨gf, cap, rfl, hc, h⟩ := h
  exact CallV.func hc (by simpa using h)
/-- sv hands the items of l to yield, as RV reads them, one by one -/
def SeqV (P : Program) (sv : Value) (M0 : Hp) (RV : Hp → List Value → α → Prop) (l : List α) : Prop :=
  sv.oneCell' = true ∧ ∀ (y : Value) (J X : List α → Hp → HProp → Prop), JM J → ∀ M1, Hp.le M0 M1 → YieldOK P y M1 RV l J X → ∀ w M c H, Hp.le M1 M → J [] M c → St w M (c :: H) →
    CallF P sv [y] w (fun _ w' => ∃ M' c', Hp.le M M' ∧ (J l M' c' ∨ ∃ p, p <+: l ∧ X p M' c') ∧ St w' M' (c' :: H))
theorem SeqV.le {sv : Value} {M0 M1 : Hp} {RV : Hp → List Value → α → Prop} {l : List α} (h : SeqV P sv M0 RV l) (hM : Hp.le M0 M1) : SeqV P sv M1 RV l :=
  ⟨h.1, fun y J X hJ M2 h2 => h.2 y J X hJ M2 (hM.trans h2)⟩
theorem SeqV_eq {sv : Value} {M0 : Hp} {RV : Hp → List Value → α → Prop} {l l' : List α} (h : SeqV P sv M0 RV l) (e : l = l') : SeqV P sv M0 RV l' := e ▸ h
/-- what a sequence's body owes at its end -/
def SQ (l : List α) (J X : List α → Hp → HProp → Prop) (M : Hp) (H : List HProp) : Ending → World → Prop := fun e w' => ∃ v, e = .returned v ∧ ∃ M' c', Hp.le M M' ∧ (J l M' c' ∨ ∃ p, p <+: l ∧ X p M' c') ∧ St w' M' (c' :: H)
theorem SeqV_enter {g : FuncId} {fn : Func} {cd : Code} {cap : Array Value} {M0 : Hp} {RV : Hp → List Value → α → Prop} {l : List α}
    (hf : P.funcs[g]? = some fn) (hb : fn.body = some cd) {m : Nat} (hm : fn.ntmps = m) (hl : Nat.ble (1 + cap.toList.length) m = true)
    (hc : ∀ args w, (callFunc g args).run P w = .ok (.enter g args) w)
    (h : ∀ y J X a w M c H, JM J → Hp.le M0 M → YieldOK P y M RV l J X → J [] M c → St w M (mks [] :: c :: H) → Env a m (([] : List Nat).map mk) (initL (y :: cap.toList) 0) →
      WP none P cd (FPost P fn (SQ l J X M H)) a w) : SeqV P (.func (.func g) #[] cap) M0 RV l := by
  refine ⟨rfl, ?_⟩
  intro y J X hJ M1 h1 hY w M c H h2 hJ0 S
  refine ⟨g, cap, rfl, hc, Calls_enter hf hb hm (by simpa [Nat.add_comm] using hl) fun a E => ?_⟩
  exact h y J X a w M c H hJ (h1.trans h2) (hY.le h2) hJ0 S.empty E
/-- a call of yield -/
theorem X_yield {r : Option Nat} {a : Act} {w : World} {n d : Nat} {ds : List Deferred} {l : List (Nat × Value)} {ty : TypeId} {ats : Array TypeId} {pos : String} {af : Array Edge} {gd : Option (Nat × Bool)} {f : Operand} {as : Array Operand} {next : Act → World → Prop} {Q : Exit → Act → World → Prop}
    {M M1 : Hp} {H : List HProp} {c : HProp} {y : Value} {vs : List Value} {RV : Hp → List Value → α → Prop} {xs pre : List α} {x : α} {J X : List α → Hp → HProp → Prop}
    (E : Env a n ds l) (S : St w M (c :: H)) (hd : Nat.blt d n = true) (hf : opv l f = some y) (ha : opvs l as.toList = some vs)
    (hY : YieldOK P y M1 RV xs J X) (hM : Hp.le M1 M) (hp : pre ++ [x] <+: xs) (hR : RV M vs x) (hJ : J pre M c)
    (k : ∀ a w' M' c' go, Hp.le M M' → (if go then J (pre ++ [x]) M' c' else X (pre ++ [x]) M' c') → St w' M' (c' :: H) → Env a n ds ((d, .bool go) :: l) → next a w') :
    (⟨some d, .call ⟨.value f, as, ats⟩, ty, pos, af, gd⟩ : Oper).wpIn (Fw r) 0 P a w next Q :=
  X_call E hd hf ha (hY.2 pre x vs w M c H hM hp hR hJ S) fun a v w' ⟨M', c', go, h1, h2, h3, h4⟩ E => by subst h2; exact k a w' M' c' go h1 h3 h4 E
/-! ### Functions as values -/
def PF2B (P : Program) (fv : Value) (M : Hp) (f : Int → Int → Bool) : Prop := fv.oneCell' = true ∧ ∀ x i : Int, Pu P fv M [.int .i64 x, .int .i64 i] (fun r _ => r = .bool (f x i))
def PF1B (P : Program) (fv : Value) (M : Hp) (f : Int → Bool) : Prop := fv.oneCell' = true ∧ ∀ x : Int, Pu P fv M [.int .i64 x] (fun r _ => r = .bool (f x))
def PF2I (P : Program) (fv : Value) (M : Hp) (f : Int → Int → Int) : Prop := fv.oneCell' = true ∧ ∀ x i : Int, Pu P fv M [.int .i64 x, .int .i64 i] (fun r _ => r = .int .i64 (f x i))
def PF1I (P : Program) (fv : Value) (M : Hp) (f : Int → Int) : Prop := fv.oneCell' = true ∧ ∀ x : Int, Pu P fv M [.int .i64 x] (fun r _ => r = .int .i64 (f x))
def PF3I (P : Program) (fv : Value) (M : Hp) (f : Int → Int → Int → Int) : Prop := fv.oneCell' = true ∧ ∀ s x i : Int, Pu P fv M [.int .i64 s, .int .i64 x, .int .i64 i] (fun r _ => r = .int .i64 (f s x i))
theorem PF3I.le {fv : Value} {M M' : Hp} {f : Int → Int → Int → Int} (h : PF3I P fv M f) (hM : Hp.le M M') : PF3I P fv M' f := ⟨h.1, fun s x i => (h.2 s x i).le hM⟩
theorem PF2B.le {fv : Value} {M M' : Hp} {f : Int → Int → Bool} (h : PF2B P fv M f) (hM : Hp.le M M') : PF2B P fv M' f := ⟨h.1, fun x i => (h.2 x i).le hM⟩
theorem PF1B.le {fv : Value} {M M' : Hp} {f : Int → Bool} (h : PF1B P fv M f) (hM : Hp.le M M') : PF1B P fv M' f := ⟨h.1, fun x => (h.2 x).le hM⟩
theorem PF2I.le {fv : Value} {M M' : Hp} {f : Int → Int → Int} (h : PF2I P fv M f) (hM : Hp.le M M') : PF2I P fv M' f := ⟨h.1, fun x i => (h.2 x i).le hM⟩
theorem PF1I.le {fv : Value} {M M' : Hp} {f : Int → Int} (h : PF1I P fv M f) (hM : Hp.le M M') : PF1I P fv M' f := ⟨h.1, fun x => (h.2 x).le hM⟩
def PF2L (P : Program) (fv : Value) (M : Hp) (f : Int → Int → List Int) : Prop := fv.oneCell' = true ∧ ∀ x i : Int, Pu P fv M [.int .i64 x, .int .i64 i] (fun r M' => RdI M' r (f x i))
def PF2Q (P : Program) (fv : Value) (M : Hp) (f : Int → Int → List Int) : Prop := fv.oneCell' = true ∧ ∀ x i : Int, Pu P fv M [.int .i64 x, .int .i64 i] (fun r M' => SeqV P r M' RInt (f x i))
theorem PF2L.le {fv : Value} {M M' : Hp} {f : Int → Int → List Int} (h : PF2L P fv M f) (hM : Hp.le M M') : PF2L P fv M' f := ⟨h.1, fun x i => (h.2 x i).le hM⟩
theorem PF2Q.le {fv : Value} {M M' : Hp} {f : Int → Int → List Int} (h : PF2Q P fv M f) (hM : Hp.le M M') : PF2Q P fv M' f := ⟨h.1, fun x i => (h.2 x i).le hM⟩
/-! ### Rounds -/
theorem CallV.yield {lb : Nat} {rec : Loop} {vs : List Value} {w : World} {M : Hp} {H : List HProp} {R : Value → World → Prop} (S : St w M (lp lb rec .ready none :: H)) (hl : vs.length = rec.params.size)
    (h : WP (some lb) P rec.assign (Exit.then (fun a₁ w₁ => ∃ w₂, (Instr.beginRound lb).run P w₁ = .ok () w₂ ∧ WP (some lb) P rec.body (roundPost P lb (fun e w' => ∃ v, e = .returned v ∧ R v w')) a₁ w₂) (fun _ _ _ => False))
      { tmps := (rec.params.zip vs.toArray).foldl (fun t (p, v) => t.setIfInBounds p v) rec.tmps, defers := [] } w) : CallV P (.func (.yield lb) #[] #[]) vs w R := by
  intro r o c f a next Q h1 h2 h3 h4 h5
  refine ⟨fun _ _ => trivial, ?_⟩
  rw [semAt_nodefer (by rw [h1]; rfl)]
  have e4 : c.args.map a.eval = vs.toArray := by rw [← h4, ← Array.toList_map, Array.toArray_toList]
  have hrun := run_yield (P := P) (args := vs.toArray) S.get (by simpa using hl)
  have : (execOp a.eval o).run P w = .ok (.round lb rec.fn ((rec.params.zip vs.toArray).foldl (fun t (p, v) => t.setIfInBounds p v) rec.tmps) rec.assign rec.body) w := by
    simp only [execOp, h1, resolve, h2, h3, e4, Deferred.ofValue]
    simp [invoke, hrun]
  rw [this]
  refine ⟨fun h => by simp [Fw_depth] at h, ?_⟩
  refine (roundIn_of_wpIn (F := Fw r) trivial h).mono fun e w' ⟨v, he, hR⟩ => ?_
  subst he; exact h5 v w' hR
theorem rb {r : Option Nat} {lb : Nat} {rec : Loop} {w : World} {M : Hp} {H : List HProp} {body : Code} {a : Act} {Q : Exit → Act → World → Prop} (S : St w M (lp lb rec .ready none :: H)) (h : ∀ w₂, St w₂ M (lp lb rec .busy none :: H) → WP r P body Q a w₂) :
    ∃ w₂, (Instr.beginRound lb).run P w = .ok () w₂ ∧ WP r P body Q a w₂ :=
  ⟨_, run_beginRound S.get rfl, h _ (S.put _)⟩
/-- how a round ends -/
def RQ (lb : Nat) (rec : Loop) (J : List α → Hp → HProp → Prop) (X : Code → List α → Hp → HProp → Prop) (p : List α) (M : Hp) (G : List HProp) : Exit → Act → World → Prop
  | .normal, _, w => ∃ M' c, Hp.le M M' ∧ J p M' c ∧ St w M' (lp lb rec .busy none :: c :: G)
  | .ret, _, w => ∃ M' c, Hp.le M M' ∧ X .ret p M' c ∧ St w M' (lp lb rec .busy none :: c :: G)
  | .exit id, _, w => ∃ M' c, Hp.le M M' ∧ X (.exit id) p M' c ∧ St w M' (lp lb rec .busy none :: c :: G)
  | _, _, _ => False
def J' (lb : Nat) (rec : Loop) (J : List α → Hp → HProp → Prop) : List α → Hp → HProp → Prop := fun p M c' => ∃ c, c' = bigs [lp lb rec .ready none, c] ∧ J p M c
def X' (lb : Nat) (rec : Loop) (X : Code → List α → Hp → HProp → Prop) : List α → Hp → HProp → Prop := fun p M c' => ∃ cd c, c' = bigs [lp lb rec .done (some cd), c] ∧ X cd p M c
theorem RQ_post {lb : Nat} {rec : Loop} {J : List α → Hp → HProp → Prop} {X : Code → List α → Hp → HProp → Prop} {p : List α} {M : Hp} {G : List HProp} : ∀ (e : Exit) (a : Act) (w : World), RQ lb rec J X p M G e a w →
    roundPost P lb (fun e w' => ∃ v, e = .returned v ∧ ∃ M' c' go, Hp.le M M' ∧ v = .bool go ∧ (if go then J' lb rec J p M' c' else X' lb rec X p M' c') ∧ St w' M' (c' :: G)) e a w := by
  intro e a w h
  cases e with
  | normal => obtain ⟨M', c, h1, h2, S⟩ := h; exact ⟨_, _, run_endRound none S.get, _, rfl, M', _, true, h1, rfl, ⟨c, rfl, h2⟩, St.pack [lp lb rec .ready none, c] (S.put _)⟩
  | ret => obtain ⟨M', c, h1, h2, S⟩ := h; exact ⟨_, _, run_endRound (some .ret) S.get, _, rfl, M', _, false, h1, rfl, ⟨_, c, rfl, h2⟩, St.pack [lp lb rec .done (some .ret), c] (S.put _)⟩
  | exit id => obtain ⟨M', c, h1, h2, S⟩ := h; exact ⟨_, _, run_endRound (some (.exit id)) S.get, _, rfl, M', _, false, h1, rfl, ⟨_, c, rfl, h2⟩, St.pack [lp lb rec .done (some (.exit id)), c] (S.put _)⟩
  | goto t => exact h.elim
  | panic ch => exact h.elim
  | outgrown => exact h.elim
def binds (ps : List Tmp) (vs : List Value) (l : List (Nat × Value)) : List (Nat × Value) := (ps.zip vs).foldl (fun e x => (x.1, x.2) :: e) l
theorem Env.binds {n : Nat} : ∀ (ps : List Tmp) (vs : List Value) {tm : Array Value} {l : List (Nat × Value)}, Env { tmps := tm, defers := [] } n [] l → (∀ p ∈ ps, p < n) →
    Env { tmps := (ps.zip vs).foldl (fun t x => t.setIfInBounds x.1 x.2) tm, defers := [] } n [] (Sl.binds ps vs l)
  | [], vs, tm, l, E, _ => E
  | p :: ps, [], tm, l, E, _ => E
  | p :: ps, v :: vs, tm, l, E, h => Env.binds ps vs (E.put (h p (List.mem_cons_self ..)) v) fun q hq => h q (List.mem_cons_of_mem _ hq)
/-- the body of the loop, at one item -/
def RoundOK (P : Program) (ps : Array Tmp) (assign body : Code) (n : Nat) (env : List (Nat × Value)) (M0 : Hp) (RV : Hp → List Value → α → Prop) (l : List α) (J : List α → Hp → HProp → Prop) (X : Code → List α → Hp → HProp → Prop) : Prop :=
  ∀ lb rec pre x vs a w M c G, Hp.le M0 M → pre ++ [x] <+: l → RV M vs x → J pre M c → Env a n [] (binds ps.toList vs env) → St w M (lp lb rec .ready none :: c :: G) →
    WP (some lb) P assign (Exit.then (fun a₁ w₁ => ∃ w₂, (Instr.beginRound lb).run P w₁ = .ok () w₂ ∧ WP (some lb) P body (RQ lb rec J X (pre ++ [x]) M G) a₁ w₂) (fun _ _ _ => False)) a w
theorem RoundOK.yield {ps : Array Tmp} {assign body : Code} {n : Nat} {env : List (Nat × Value)} {M0 : Hp} {RV : Hp → List Value → α → Prop} {l : List α} {J : List α → Hp → HProp → Prop} {X : Code → List α → Hp → HProp → Prop}
    (h : RoundOK P ps assign body n env M0 RV l J X) (hRV : ∀ M vs x, RV M vs x → vs.length = ps.size) (hps : ∀ p ∈ ps.toList, p < n) {a : Act} {ds : List Deferred} (E : Env a n ds env) {lb : Nat} {rec : Loop} (hr : rec.tmps = a.tmps ∧ rec.params = ps ∧ rec.assign = assign ∧ rec.body = body) :
    YieldOK P (.func (.yield lb) #[] #[]) M0 RV l (J' lb rec J) (X' lb rec X) := by
  obtain ⟨r1, r2, r3, r4⟩ := hr
  refine ⟨rfl, ?_⟩
  rintro pre x vs w M c' H hM hp hR ⟨c, rfl, hJ⟩ S
  have S := S.unpack2
  refine CallV.yield S (by rw [r2]; exact hRV _ _ _ hR) ?_
  rw [r1, r2, r3, r4]
  have E0 : Env { tmps := a.tmps, defers := [] } n [] env := ⟨E.size, rfl, E.get⟩
  have E1 := Env.binds ps.toList vs E0 hps
  have e : (ps.zip vs.toArray).foldl (fun t (x : Tmp × Value) => t.setIfInBounds x.1 x.2) a.tmps = (ps.toList.zip vs).foldl (fun t x => t.setIfInBounds x.1 x.2) a.tmps := by
    rw [← Array.foldl_toList, Array.toList_zip]
  have key := h lb rec pre x vs _ w M c H hM hp hR hJ E1 S
  rw [← e] at key
  refine wpIn_mono key fun e a w hq => ?_
  cases e with
  | normal => obtain ⟨w₂, h1, h2⟩ := hq; exact ⟨w₂, h1, wpIn_mono h2 RQ_post⟩
  | exit _ => exact hq
  | goto _ => exact hq
  | ret => exact hq
  | panic _ => exact hq
  | outgrown => exact hq
/-- a range over a function, in a function's own frame -/
theorem WP_range {g : Operand} {ps : Array Tmp} {assign body : Code} {Q : Exit → Act → World → Prop} {a : Act} {w : World} {n : Nat} {env : List (Nat × Value)} {Ds : List Nat} {M M0 : Hp} {c : HProp} {H : List HProp} {sv : Value} {RV : Hp → List Value → α → Prop} {l : List α}
    (J : List α → Hp → HProp → Prop) (X : Code → List α → Hp → HProp → Prop) (E : Env a n (Ds.map mk) env) (S : St w M (c :: mks Ds :: H)) (hg : opv env g = some sv) (hs : SeqV P sv M0 RV l) (hM : Hp.le M0 M)
    (hRV : ∀ M vs x, RV M vs x → vs.length = ps.size) (hps : ps.toList.all (fun p => Nat.blt p n) = true) (hJM : JM J) (hJ : J [] M c)
    (round : RoundOK P ps assign body n env M RV l J X)
    (done : ∀ a w M' c D, Hp.le M M' → J l M' c → St w M' (c :: mks (D :: Ds) :: H) → Env a n ((D :: Ds).map mk) env → Q .normal a w)
    (stop : ∀ a w M' c D p cd, Hp.le M M' → p <+: l → X cd p M' c → St w M' (c :: mks (D :: Ds) :: H) → Env a n ((D :: Ds).map mk) env → WP none P cd Q a w) :
    WP none P (.rangeFunc g ps assign body) Q a w := by
  refine wpIn_rangeFunc fun fn _ => ?_
  have S1 : St ((w.alloc (.deferred (some []))).alloc (.loop { state := .ready, pending := none, fn, tmps := a.tmps, params := ps, assign, body, defers := w.heap.size })) M
      (blk (w.heap.size + 1) (.loop { state := .ready, pending := none, fn, tmps := a.tmps, params := ps, assign, body, defers := w.heap.size }) :: dfb w.heap.size :: c :: mks Ds :: H) := by
    have S2 : St (w.alloc (.deferred (some []))) M (dfb w.heap.size :: c :: mks Ds :: H) := S.new (w' := w.alloc (.deferred (some []))) rfl
    have S3 := S2.new (w' := (w.alloc (.deferred (some []))).alloc (.loop { state := .ready, pending := none, fn, tmps := a.tmps, params := ps, assign, body, defers := w.heap.size })) (o := .loop { state := .ready, pending := none, fn, tmps := a.tmps, params := ps, assign, body, defers := w.heap.size }) rfl
    rw [World.size_alloc] at S3; exact S3
  obtain ⟨rec, hrec⟩ : ∃ rec : Loop, rec = { state := .ready, pending := none, fn, tmps := a.tmps, params := ps, assign, body, defers := w.heap.size } := ⟨_, rfl⟩
  obtain ⟨lb, hlb⟩ : ∃ lb, lb = w.heap.size + 1 := ⟨_, rfl⟩
  obtain ⟨D, hD⟩ : ∃ D, D = w.heap.size := ⟨_, rfl⟩
  obtain ⟨W1, hW1⟩ : ∃ W1, (w.alloc (.deferred (some []))).alloc (.loop { state := .ready, pending := none, fn, tmps := a.tmps, params := ps, assign, body, defers := w.heap.size }) = W1 := ⟨_, rfl⟩
  have henter := run_enterLoop_outer (P := P) (w := w) fn a.tmps ps assign body
  rw [hW1, ← hlb, ← hD] at henter
  rw [hW1, ← hlb, ← hrec, ← hD] at S1
  have S4 : St W1 M (bigs [lp lb rec .ready none, c] :: mks (D :: Ds) :: H) := by
    have e : lp lb rec .ready none = blk lb (.loop rec) := by rw [hrec]; rfl
    have S5 : St W1 M (dfb D :: mks Ds :: lp lb rec .ready none :: c :: H) := by
      rw [e]; refine S1.perm ?_
      refine (List.Perm.swap _ _ _).trans (List.Perm.cons _ ?_)
      refine (List.Perm.cons _ (List.Perm.swap _ _ _)).trans (List.Perm.swap _ _ _)
    exact St.pack [lp lb rec .ready none, c] (S5.mks_cons.perm ((List.Perm.swap _ _ _).trans (List.Perm.cons _ (List.Perm.swap _ _ _))))
  have hps' : ∀ p ∈ ps.toList, p < n := fun p hp => by have := List.all_eq_true.1 hps p hp; simpa using this
  have hJ' : JM (J' lb rec J) := fun p M M' c hM ⟨c0, e, h⟩ => ⟨c0, e, hJM _ _ _ _ hM h⟩
  obtain ⟨gf, cap, hsv, hc, hcall⟩ := hs.2 (.func (.yield lb) #[] #[]) (J' lb rec J) (X' lb rec X) hJ' M hM (round.yield hRV hps' E ⟨by rw [hrec], by rw [hrec], by rw [hrec], by rw [hrec]⟩) W1 M _ _ (Hp.le.refl _) ⟨c, rfl, hJ⟩ S4
  refine ⟨lb, [mk D], W1, { target := .fn (.func gf) cap, args := #[.func (.yield lb) #[] #[]] }, W1, gf, #[.func (.yield lb) #[] #[]] ++ cap, W1, henter, ?_, fun _ _ => trivial, ?_, fun h => by simp [Fw_depth] at h, ?_⟩
  · simp only [resolve, E.eval hg, hsv]
    simp [go_sem]
  · simp [invoke, go_sem, hc]
  · rw [callsIn_Fw]
    rw [show ([Value.func (Fn.yield lb) #[] #[]] ++ cap.toList).toArray = #[Value.func (Fn.yield lb) #[] #[]] ++ cap by simp] at hcall
    refine hcall.mono fun e w3 ⟨v, he, M', c', hM', hx, S6⟩ => ?_
    subst he
    have E' : Env { a with defers := [mk D] ++ a.defers } n ((D :: Ds).map mk) env := ⟨E.size, by rw [E.dfr]; rfl, E.get⟩
    rcases hx with ⟨c1, rfl, h1⟩ | ⟨p, hp, cd, c1, rfl, h1⟩
    · have S7 := S6.unpack2
      exact ⟨none, _, run_endLoop S7.get (fun e => nomatch e), done _ _ M' c1 D hM' h1 (S7.put _).drop E'⟩
    · have S7 := S6.unpack2
      exact ⟨some cd, _, run_endLoop S7.get (fun e => nomatch e), stop _ _ M' c1 D p cd hM' hp h1 (S7.put _).drop E'⟩
/-- a range over a function within a round of another one -/
theorem WP_range' {g : Operand} {ps : Array Tmp} {assign body : Code} {Q : Exit → Act → World → Prop} {a : Act} {w : World} {n : Nat} {env : List (Nat × Value)} {ds : List Deferred} {l0 : Nat} {rec0 : Loop} {M M0 : Hp} {c : HProp} {H : List HProp} {sv : Value} {RV : Hp → List Value → α → Prop} {l : List α}
    (J : List α → Hp → HProp → Prop) (X : Code → List α → Hp → HProp → Prop) (E : Env a n ds env) (S : St w M (c :: lp l0 rec0 .busy none :: H)) (hg : opv env g = some sv) (hs : SeqV P sv M0 RV l) (hM : Hp.le M0 M)
    (hRV : ∀ M vs x, RV M vs x → vs.length = ps.size) (hps : ps.toList.all (fun p => Nat.blt p n) = true) (hJM : JM J) (hJ : J [] M c)
    (round : RoundOK P ps assign body n env M RV l J X)
    (done : ∀ a w M' c, Hp.le M M' → J l M' c → St w M' (c :: lp l0 rec0 .busy none :: H) → Env a n ds env → Q .normal a w)
    (stop : ∀ a w M' c p cd, Hp.le M M' → p <+: l → X cd p M' c → St w M' (c :: lp l0 rec0 .busy none :: H) → Env a n ds env → WP (some l0) P cd Q a w) :
    WP (some l0) P (.rangeFunc g ps assign body) Q a w := by
  refine wpIn_rangeFunc fun fn _ => ?_
  have h0 : w.heap[l0]? = some (.loop { rec0 with state := .busy, pending := none }) := S.swap.get
  obtain ⟨rec, hrec⟩ : ∃ rec : Loop, rec = { state := .ready, pending := none, fn, tmps := a.tmps, params := ps, assign, body, defers := rec0.defers } := ⟨_, rfl⟩
  obtain ⟨lb, hlb⟩ : ∃ lb, lb = w.heap.size := ⟨_, rfl⟩
  obtain ⟨W1, hW1⟩ : ∃ W1, w.alloc (.loop rec) = W1 := ⟨_, rfl⟩
  have henter : (Instr.enterLoop fn a.tmps ps assign body (Fw (some l0)).round).run P w = .ok (lb, []) W1 := by
    rw [hlb, ← hW1, hrec]; exact run_enterLoop_inner h0 fn a.tmps ps assign body
  have S4 : St W1 M (bigs [lp lb rec .ready none, c] :: lp l0 rec0 .busy none :: H) := by
    have e : lp lb rec .ready none = blk lb (.loop rec) := by rw [hrec]; rfl
    refine St.pack [lp lb rec .ready none, c] ?_
    rw [e, hlb]; exact S.new (by rw [← hW1]; rfl) (by rw [← hW1]; rfl)
  have hps' : ∀ p ∈ ps.toList, p < n := fun p hp => by have := List.all_eq_true.1 hps p hp; simpa using this
  have hJ' : JM (J' lb rec J) := fun p M M' c hM ⟨c0, e, h⟩ => ⟨c0, e, hJM _ _ _ _ hM h⟩
  obtain ⟨gf, cap, hsv, hc, hcall⟩ := hs.2 (.func (.yield lb) #[] #[]) (J' lb rec J) (X' lb rec X) hJ' M hM (round.yield hRV hps' E ⟨by rw [hrec], by rw [hrec], by rw [hrec], by rw [hrec]⟩) W1 M _ _ (Hp.le.refl _) ⟨c, rfl, hJ⟩ S4
  refine ⟨lb, [], W1, { target := .fn (.func gf) cap, args := #[.func (.yield lb) #[] #[]] }, W1, gf, #[.func (.yield lb) #[] #[]] ++ cap, W1, henter, ?_, fun _ _ => trivial, ?_, fun h => by simp [Fw_depth] at h, ?_⟩
  · simp only [resolve, E.eval hg, hsv]
    simp [go_sem]
  · simp [invoke, go_sem, hc]
  · rw [callsIn_Fw]
    rw [show ([Value.func (Fn.yield lb) #[] #[]] ++ cap.toList).toArray = #[Value.func (Fn.yield lb) #[] #[]] ++ cap by simp] at hcall
    refine hcall.mono fun e w3 ⟨v, he, M', c', hM', hx, S6⟩ => ?_
    subst he
    have E' : Env { a with defers := [] ++ a.defers } n ds env := ⟨E.size, E.dfr, E.get⟩
    rcases hx with ⟨c1, rfl, h1⟩ | ⟨p, hp, cd, c1, rfl, h1⟩
    · have S7 := S6.unpack2
      exact ⟨none, _, run_endLoop S7.get (fun e => nomatch e), done _ _ M' c1 hM' h1 (S7.put _).drop E'⟩
    · have S7 := S6.unpack2
      exact ⟨some cd, _, run_endLoop S7.get (fun e => nomatch e), stop _ _ M' c1 p cd hM' hp h1 (S7.put _).drop E'⟩
end
end Go.Sl
