import Derived.Test.YtejfcglfjdfneaaSlC
namespace Go.Sl
open Go

/-! ### Code -/
section code
variable {r : Option Nat} {P : Program} {Q : Exit → Act → World → Prop} {a : Act} {w : World}
theorem WP_skip (h : Q .normal a w) : WP r P .skip Q a w := wpIn_skip h
theorem WP_exit {id : Nat} (h : Q (.exit id) a w) : WP r P (.exit id) Q a w := wpIn_exit h
theorem WP_ret (h : Q .ret a w) : WP r P .ret Q a w := wpIn_ret h
theorem WP_seq {x y : Code} (h : WP r P x (Exit.then (WP r P y Q) Q) a w) : WP r P (.seq x y) Q a w := wpIn_seq h
theorem WP_block {id : Nat} {c : Code} (h : WP r P c (Exit.inBlock id Q) a w) : WP r P (.block id c) Q a w := wpIn_block h
theorem WP_cond {n : Nat} {ds : List Deferred} {l : List (Nat × Value)} {o : Operand} {x y : Code} {t : Bool} (E : Env a n ds l) (hc : opv l o = some (.bool t))
    (ht : t = true → WP r P x Q a w) (hf : t = false → WP r P y Q a w) : WP r P (.cond o x y) Q a w := wpIn_cond_split (E.eval hc) ht hf
theorem WP_condT {n : Nat} {ds : List Deferred} {l : List (Nat × Value)} {o : Operand} {x y : Code} {t : Bool} (E : Env a n ds l) (hc : opv l o = some (.bool t)) (ht : t = true)
    (h : WP r P x Q a w) : WP r P (.cond o x y) Q a w := wpIn_cond_true (by rw [E.eval hc, ht]) h
theorem WP_condF {n : Nat} {ds : List Deferred} {l : List (Nat × Value)} {o : Operand} {x y : Code} {t : Bool} (E : Env a n ds l) (hc : opv l o = some (.bool t)) (ht : t = false)
    (h : WP r P y Q a w) : WP r P (.cond o x y) Q a w := wpIn_cond_false (by rw [E.eval hc, ht]) h
/-- a loop with a ghost -/
theorem WP_loop {γ : Type} {c : Code} (I : γ → Act → World → Prop) (μ : γ → Nat) (g : γ) (h0 : I g a w)
    (round : ∀ g a w, I g a w → WP r P c (Exit.then (fun a' w' => ∃ g', I g' a' w' ∧ μ g' < μ g) Q) a w) : WP r P (.loop c) Q a w := by
  intro b k cs hro hb hr
  have key : ∀ j g a w, μ g = j → I g a w →
      ∃ e a' w', Q e a' w' ∧ ArrivesIn (Machine.fenced P (Fw r)) P (lone (b.atR a (.code c :: .inLoop c :: k)) cs w) b k cs e a' w' := by
    intro j
    induction j using Nat.strongRecOn with
    | _ j ih =>
      intro g a w hn hI
      obtain ⟨e, a₁, w₁, hq, harr⟩ := round g a w hI b (.inLoop c :: k) cs hro hb hr
      cases e with
      | normal =>
        obtain ⟨g', hI₁, hlt⟩ := hq
        obtain ⟨e₂, a₂, w₂, hq₂, harr₂⟩ := ih (μ g') (hn ▸ hlt) g' a₁ w₁ rfl hI₁
        exact ⟨e₂, a₂, w₂, hq₂, .of_steps (StepsIn.trans harr (.one (fenced_calm hb hr rfl) stepR_inLoop)) harr₂⟩
      | exit id => exact ⟨_, a₁, w₁, hq, .pass (x := .inLoop c) rfl (fun _ _ => .inl (by simp)) harr⟩
      | goto l => exact ⟨_, a₁, w₁, hq, .pass (x := .inLoop c) rfl (fun _ _ => .inl (by simp)) harr⟩
      | ret => exact ⟨_, a₁, w₁, hq, .pass (x := .inLoop c) rfl (fun _ _ => .inl (by simp)) harr⟩
      | panic ch => exact ⟨_, a₁, w₁, hq, .pass (x := .inLoop c) rfl (fun _ _ => .inl (by simp)) harr⟩
      | outgrown => exact ⟨_, a₁, w₁, hq, .pass (x := .inLoop c) rfl (fun _ _ => .inl (by simp)) harr⟩
  obtain ⟨e, a', w', hq, harr⟩ := key _ g a w rfl h0
  exact ⟨e, a', w', hq, .of_steps (.one (fenced_calm hb hr rfl) stepR_loop) harr⟩
theorem T_n {K : Act → World → Prop} (h : K a w) : Exit.then K Q .normal a w := h
theorem T_x {K : Act → World → Prop} {i : Nat} (h : Q (.exit i) a w) : Exit.then K Q (.exit i) a w := h
theorem T_r {K : Act → World → Prop} (h : Q .ret a w) : Exit.then K Q .ret a w := h
theorem T_p {K : Act → World → Prop} {ch : List PanicEntry} (h : Q (.panic ch) a w) : Exit.then K Q (.panic ch) a w := h
theorem B_n {i : Nat} (h : Q .normal a w) : Exit.inBlock i Q .normal a w := h
theorem B_x {i : Nat} (h : Q .normal a w) : Exit.inBlock i Q (.exit i) a w := by simp only [Exit.inBlock, if_true]; exact h
theorem B_y {i j : Nat} (hne : Nat.beq j i = false) (h : Q (.exit j) a w) : Exit.inBlock i Q (.exit j) a w := by
  have : j ≠ i := fun e => by subst e; simp at hne
  simp only [Exit.inBlock, if_neg this]; exact h
theorem B_r {i : Nat} (h : Q .ret a w) : Exit.inBlock i Q .ret a w := h
theorem B_p {i : Nat} {ch : List PanicEntry} (h : Q (.panic ch) a w) : Exit.inBlock i Q (.panic ch) a w := h
end code

/-! ### A function's body -/
def initL : List Value → Nat → List (Nat × Value)
  | [], _ => []
  | v :: r, i => (i, v) :: initL r (i + 1)
theorem look_initL : ∀ (vs : List Value) (i t : Nat) (v : Value), look (initL vs i) t = some v → i ≤ t ∧ vs[t - i]? = some v
  | [], _, _, _, h => by cases h
  | u :: r, i, t, v, h => by
    unfold initL at h
    rw [look_cons] at h
    split at h
    · subst_vars; cases h; simp
    · obtain ⟨h1, h2⟩ := look_initL r (i + 1) t v h
      refine ⟨by omega, ?_⟩
      rw [show t - i = (t - (i + 1)) + 1 by omega]; simpa using h2
theorem Env.init (args : List Value) (m : Nat) (h : args.length ≤ m) : Env { tmps := args.toArray ++ Array.replicate (m - args.toArray.size) Go.undef, defers := [] } m [] (initL args 0) := by
  refine ⟨by simp; omega, rfl, fun t v e => ?_⟩
  obtain ⟨_, h2⟩ := look_initL _ _ _ _ e
  have hlt : t < args.length := by have := (List.getElem?_eq_some_iff.1 h2).1; omega
  rw [Array.getElem?_append_left (by simpa using hlt)]
  simpa using h2
/-- what the end of a body owes -/
abbrev FPost (P : Program) (fn : Func) (R : Ending → World → Prop) : Exit → Act → World → Prop := bodyPostM (Fw none) 0 P fn R
theorem Calls_enter {P : Program} {f : FuncId} {fn : Func} {c : Code} {args : List Value} {w : World} {R : Ending → World → Prop}
    (hf : P.funcs[f]? = some fn) (hb : fn.body = some c) {m : Nat} (hm : fn.ntmps = m) (hl : Nat.ble args.length m = true)
    (h : ∀ a, Env a m [] (initL args 0) → WP none P c (FPost P fn R) a w) : Calls P f args.toArray w R := by
  rw [← callsIn_Fw (r := none)]
  subst hm
  exact callsIn_of_wp_marks (F := Fw none) (n := 0) hf hb trivial (h _ (Env.init args _ (by simpa using hl)))
section ends
variable {P : Program} {fn : Func} {R : Ending → World → Prop} {a : Act} {w : World} {n : Nat} {l : List (Nat × Value)}
theorem results_tmp3' {t u v : Tmp} (h : fn.results = #[.tmp t, .tmp u, .tmp v]) (tmps : Array Value) (w : World) :
    (results fn tmps).run P w = .ok (.tuple #[tmps.getD t Go.undef, tmps.getD u Go.undef, tmps.getD v Go.undef]) w := by simp [results, h]
theorem Env.getD {ds : List Deferred} (E : Env a n ds l) {t : Tmp} {v : Value} (h : look l t = some v) : a.tmps.getD t Go.undef = v := E.eval (o := .tmp t) h
theorem F_of {v : Value} (E : Env a n [] l) (h : (results fn a.tmps).run P w = .ok v w) (hR : R (.returned v) w) : FPost P fn R .ret a w := by
  show LeavesInM _ _ _ _ _ _ a.defers .returning w
  rw [E.dfr]; exact ⟨_, h, hR⟩
theorem F_ret0 (E : Env a n [] l) (h : fn.results = #[]) (hR : R (.returned (.tuple #[])) w) : FPost P fn R .ret a w := F_of E (results_none h _ _ _) hR
theorem F_ret1 {t : Tmp} {v : Value} (E : Env a n [] l) (h : fn.results = #[.tmp t]) (hv : look l t = some v) (hR : R (.returned v) w) : FPost P fn R .ret a w :=
  F_of E (by rw [results_tmp h, E.getD hv]) hR
theorem F_ret2 {t t' : Tmp} {v v' : Value} (E : Env a n [] l) (h : fn.results = #[.tmp t, .tmp t']) (hv : look l t = some v) (hv' : look l t' = some v') (hR : R (.returned (.tuple #[v, v'])) w) : FPost P fn R .ret a w :=
  F_of E (by rw [results_tmp2 h, E.getD hv, E.getD hv']) hR
theorem F_ret3 {t t' t'' : Tmp} {v v' v'' : Value} (E : Env a n [] l) (h : fn.results = #[.tmp t, .tmp t', .tmp t'']) (hv : look l t = some v) (hv' : look l t' = some v') (hv'' : look l t'' = some v'')
    (hR : R (.returned (.tuple #[v, v', v''])) w) : FPost P fn R .ret a w :=
  F_of E (by rw [results_tmp3' h, E.getD hv, E.getD hv', E.getD hv'']) hR
/-- off the end is as by 'return' -/
theorem F_nrm (h : FPost P fn R .ret a w) : FPost P fn R .normal a w := h
end ends

/-! ### Calls of function values -/
def CallV (P : Program) (fv : Value) (args : List Value) (w : World) (R : Value → World → Prop) : Prop :=
  ∀ (r : Option Nat) (o : Oper) (c : Call) (f : Operand) (a : Act) (next : Act → World → Prop) (Q : Exit → Act → World → Prop), o.op = .call c → c.callee = .value f → a.eval f = fv →
    c.args.toList.map a.eval = args → (∀ v w', R v w' → next (a.put o.dst v) w') → o.wpIn (Fw r) 0 P a w next Q
theorem CallV.mono {P : Program} {fv : Value} {args : List Value} {w : World} {R R' : Value → World → Prop} (h : CallV P fv args w R) (hr : ∀ v w', R v w' → R' v w') : CallV P fv args w R' :=
  fun r o c f a next Q h1 h2 h3 h4 h5 => h r o c f a next Q h1 h2 h3 h4 fun v w' x => h5 v w' (hr v w' x)
theorem CallV.func {P : Program} {g : FuncId} {first cap : Array Value} {args : List Value} {w : World} {R : Value → World → Prop}
    (hc : ∀ args w, (callFunc g args).run P w = .ok (.enter g args) w)
    (h : Calls P g (first.toList ++ args ++ cap.toList).toArray w (fun e w' => ∃ v, e = .returned v ∧ R v w')) : CallV P (.func (.func g) first cap) args w R := by
  intro r o c f a next Q h1 h2 h3 h4 h5
  refine ⟨fun _ _ => trivial, ?_⟩
  rw [semAt_nodefer (by rw [h1]; rfl)]
  have e4 : c.args.map a.eval = args.toArray := by rw [← h4, ← Array.toList_map, Array.toArray_toList]
  have : (execOp a.eval o).run P w = .ok (.enter g (first ++ args.toArray ++ cap)) w := by
    simp only [execOp, h1, resolve, h2, h3, e4, Deferred.ofValue]
    simp [invoke, hc]
  rw [this]
  refine ⟨fun h => by simp [Fw_depth] at h, ?_⟩
  rw [callsIn_Fw, show first ++ args.toArray ++ cap = (first.toList ++ args ++ cap.toList).toArray by simp]
  exact h.mono fun e w' ⟨v, he, hR⟩ => by subst he; exact h5 v w' hR
theorem O_call {r : Option Nat} {P : Program} {ops : Array Oper} {Q : Exit → Act → World → Prop} {a : Act} {w : World} {rest : List Oper}
  {n : Nat} {ds : List Deferred} {l : List (Nat × Value)} {d : Nat} {ty : TypeId} {ats : Array TypeId} {pos : String} {af : Array Edge} {f : Operand} {as : Array Operand} {fv : Value} {args : List Value} {R : Value → World → Prop}
  (E : Env a n ds l) (hd : Nat.blt d n = true) (hf : opv l f = some fv) (ha : opvs l as.toList = some args) (C : CallV P fv args w R)
  (k : ∀ a v w', R v w' → Env a n ds ((d, v) :: l) → WL r P ops Q rest a w') : WL r P ops Q (⟨some d, .call ⟨.value f, as, ats⟩, ty, pos, af, none⟩ :: rest) a w :=
  WL_op rfl (C r _ _ f a _ Q rfl rfl (E.eval hf) (E.evals ha) fun v w' hR => k _ v w' hR (E.put (by simpa using hd) v))
theorem O_call0 {r : Option Nat} {P : Program} {ops : Array Oper} {Q : Exit → Act → World → Prop} {a : Act} {w : World} {rest : List Oper}
  {n : Nat} {ds : List Deferred} {l : List (Nat × Value)} {ty : TypeId} {ats : Array TypeId} {pos : String} {af : Array Edge} {f : Operand} {as : Array Operand} {fv : Value} {args : List Value} {R : Value → World → Prop}
  (E : Env a n ds l) (hf : opv l f = some fv) (ha : opvs l as.toList = some args) (C : CallV P fv args w R)
  (k : ∀ a v w', R v w' → Env a n ds l → WL r P ops Q rest a w') : WL r P ops Q (⟨none, .call ⟨.value f, as, ats⟩, ty, pos, af, none⟩ :: rest) a w :=
  WL_op rfl (C r _ _ f a _ Q rfl rfl (E.eval hf) (E.evals ha) fun v w' hR => k _ v w' hR E)

/-! ### Functions that leave what is owned alone, and may freeze new memory -/
/-- from the frozen memory M on: a call hands back a v with q; what is owned elsewhere stays -/
def Pu (P : Program) (fv : Value) (M : Hp) (args : List Value) (q : Value → Hp → Prop) : Prop :=
  ∀ w M1 H, Hp.le M M1 → St w M1 H → CallV P fv args w (fun v w' => ∃ M2, Hp.le M1 M2 ∧ q v M2 ∧ St w' M2 H)
/-- the same with chunks p taken and chunks handed back -/
def Sp (P : Program) (fv : Value) (M : Hp) (args : List Value) (p : List HProp) (q : Value → Hp → List HProp → Prop) : Prop :=
  ∀ w M1 H, Hp.le M M1 → St w M1 (p ++ H) → CallV P fv args w (fun v w' => ∃ M2 C, Hp.le M1 M2 ∧ q v M2 C ∧ St w' M2 (C ++ H))
theorem Pu.le {P : Program} {fv : Value} {M M' : Hp} {args : List Value} {q : Value → Hp → Prop} (h : Pu P fv M args q) (hM : Hp.le M M') : Pu P fv M' args q :=
  fun w M1 H h1 => h w M1 H (hM.trans h1)
theorem Sp.le {P : Program} {fv : Value} {M M' : Hp} {args : List Value} {p : List HProp} {q : Value → Hp → List HProp → Prop} (h : Sp P fv M args p q) (hM : Hp.le M M') : Sp P fv M' args p q :=
  fun w M1 H h1 => h w M1 H (hM.trans h1)
theorem Pu_enter {P : Program} {g : FuncId} {fn : Func} {c : Code} {first cap : Array Value} {args : List Value} {M : Hp} {q : Value → Hp → Prop}
    (hf : P.funcs[g]? = some fn) (hb : fn.body = some c) {m : Nat} (hm : fn.ntmps = m) (hl : Nat.ble (first.toList ++ args ++ cap.toList).length m = true)
    (hc : ∀ args w, (callFunc g args).run P w = .ok (.enter g args) w)
    (h : ∀ a w M1 H, Hp.le M M1 → St w M1 H → Env a m [] (initL (first.toList ++ args ++ cap.toList) 0) →
      WP none P c (FPost P fn fun e w' => ∃ v, e = .returned v ∧ ∃ M2, Hp.le M1 M2 ∧ q v M2 ∧ St w' M2 H) a w) : Pu P (.func (.func g) first cap) M args q :=
  fun w M1 H hM S => CallV.func hc (Calls_enter hf hb hm hl fun a E => h a w M1 H hM S E)
theorem Sp_enter {P : Program} {g : FuncId} {fn : Func} {c : Code} {first cap : Array Value} {args : List Value} {M : Hp} {p : List HProp} {q : Value → Hp → List HProp → Prop}
    (hf : P.funcs[g]? = some fn) (hb : fn.body = some c) {m : Nat} (hm : fn.ntmps = m) (hl : Nat.ble (first.toList ++ args ++ cap.toList).length m = true)
    (hc : ∀ args w, (callFunc g args).run P w = .ok (.enter g args) w)
    (h : ∀ a w M1 H, Hp.le M M1 → St w M1 (p ++ H) → Env a m [] (initL (first.toList ++ args ++ cap.toList) 0) →
      WP none P c (FPost P fn fun e w' => ∃ v, e = .returned v ∧ ∃ M2 C, Hp.le M1 M2 ∧ q v M2 C ∧ St w' M2 (C ++ H)) a w) : Sp P (.func (.func g) first cap) M args p q :=
  fun w M1 H hM S => CallV.func hc (Calls_enter hf hb hm hl fun a E => h a w M1 H hM S E)
end Go.Sl
