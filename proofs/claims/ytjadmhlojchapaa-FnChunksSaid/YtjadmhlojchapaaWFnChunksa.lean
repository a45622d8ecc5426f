/- Walks through the functions that laws.FnChunks reaches: what each computes; no conditions beyond what each theorem states. -/
import Derived.Test.YtjadmhlojchapaaProg
import Derived.Test.YtjadmhlojchapaaSlY
set_option linter.unusedVariables false
set_option linter.unusedSimpArgs false
namespace Go.Proofs.Ytjadmhlojchapaa.wFnChunks
open Go Go.Sl
theorem Try.mixed : Try.prog.follows .mixedOrders = true := by kernel_rfl
theorem T33 : SlT Try.prog 33 3 1 8 (.int .i64 0) := ⟨Try.underlying33, ⟨Try.t3, by kernel_rfl, rfl, rfl, rfl⟩, rfl, by decide⟩
theorem T34 : SlT Try.prog 34 33 1 24 (.slice none 0 0) := ⟨Try.underlying34, ⟨Try.t33, by kernel_rfl, rfl, rfl, rfl⟩, rfl, by decide⟩
theorem T98 : SlT Try.prog 98 94 1 8 (.nilFunc) := ⟨Try.underlying98, ⟨Try.t94, by kernel_rfl, rfl, rfl, rfl⟩, rfl, by decide⟩
def total (ll : List (List Int)) : Nat := (ll.map List.length).sum
theorem total_succ {ll : List (List Int)} {k : Nat} {x : List Int} (h : ll[k]? = some x) : total (ll.take (k + 1)) = total (ll.take k) + x.length := by
  simp [total, List.take_add_one, h]
theorem total_take_le (ll : List (List Int)) (k : Nat) : total (ll.take k) ≤ total ll := by
  unfold total
  conv => rhs; rw [← List.take_append_drop k ll]
  rw [List.map_append, List.sum_append]; omega
theorem flatten_len (ll : List (List Int)) : ll.flatten.length = total ll := by simp [total, List.length_flatten]
theorem flatten_succ {ll : List (List Int)} {k : Nat} {x : List Int} (h : ll[k]? = some x) : (ll.take (k + 1)).flatten = (ll.take k).flatten ++ x := by
  simp [List.take_add_one, h]
theorem flat_prefix {l : List (List Int)} {k : Nat} {xk p : List Int} {x : Int} (h : l[k]? = some xk) (hp : p ++ [x] <+: xk) : ((l.take k).flatten ++ p) ++ [x] <+: l.flatten := by
  have h1 : (l.take (k + 1)).flatten <+: l.flatten := by
    conv => rhs; rw [← List.take_append_drop (k + 1) l, List.flatten_append]
    exact List.prefix_append _ _
  rw [flatten_succ h] at h1
  rw [List.append_assoc]
  exact ((List.prefix_append_right_inj _).2 hp).trans h1
theorem flat_prefix0 {l : List (List Int)} {k : Nat} {xk p : List Int} (h : l[k]? = some xk) (hp : p <+: xk) : ((l.take k).flatten ++ p) <+: l.flatten := by
  have h1 : (l.take (k + 1)).flatten <+: l.flatten := by
    conv => rhs; rw [← List.take_append_drop (k + 1) l, List.flatten_append]
    exact List.prefix_append _ _
  rw [flatten_succ h] at h1
  exact ((List.prefix_append_right_inj _).2 hp).trans h1
def PF2T (P : Program) (fv : Value) (M : Hp) (f : Int → Int → Int × Bool) : Prop := fv.oneCell' = true ∧ ∀ x i : Int, Pu P fv M [.int .i64 x, .int .i64 i] (fun r _ => r = .tuple #[.int .i64 (f x i).1, .bool (f x i).2])
theorem PF2T.le {P : Program} {fv : Value} {M M' : Hp} {f : Int → Int → Int × Bool} (h : PF2T P fv M f) (hM : Hp.le M M') : PF2T P fv M' f := ⟨h.1, fun x i => (h.2 x i).le hM⟩
def SortedI (l : List Int) : Prop := l.Pairwise (· ≤ ·)
def SortedU (l : List Int) : Prop := l.Pairwise (· < ·)
theorem SortedU.le {l : List Int} (h : SortedU l) : SortedI l := List.Pairwise.imp (fun h => by omega) h
instance (l : List Int) : Decidable (SortedI l) := inferInstanceAs (Decidable (l.Pairwise (· ≤ ·)))
/-! ## crossing -/
theorem tk_snoc {α : Type} {l : List α} {k : Nat} {x : α} (h : l[k]? = some x) : l.take (k + 1) = l.take k ++ [x] := by rw [List.take_add_one, h]; rfl
theorem eqp_step {α : Type} {l m : List α} {k : Nat} {x y : α} (h : l.take k = m.take k) (hx : l[k]? = some x) (hy : m[k]? = some y) (e : x = y) : l.take (k + 1) = m.take (k + 1) := by rw [tk_snoc hx, tk_snoc hy, h, e]
theorem eqp_no {α : Type} {l m : List α} {k : Nat} {x y : α} (hx : l[k]? = some x) (hy : m[k]? = some y) (e : ¬ x = y) : ¬ l = m := fun h => by subst h; rw [hx] at hy; exact e (Option.some.inj hy)
def full (a : List Int) (n : Nat) : List Int := a ++ List.replicate (n - a.length) 0
/-! ## windows -/
def winL (n s : Nat) (l : List Int) (w : Nat) : List (List Int) := (List.range w).map fun i => (l.drop (i * s)).take n
structure SlS where
  buf : List Int
  cnt : Nat
  skip : Nat
  out : List (List Int)
section
variable {n s : Nat} {p : List Int} {x : Int}
end
theorem winL_succ (n s : Nat) (l : List Int) (k : Nat) : winL n s l k ++ [(l.drop (k * s)).take n] = winL n s l (k + 1) := by unfold winL; rw [List.range_succ, List.map_append]; rfl
theorem winL_len (n s : Nat) (l : List Int) (k : Nat) : (winL n s l k).length = k := by simp [winL]
theorem sub_win {n a : Nat} {l : List Int} : (l.take (a + n)).drop a = (l.drop a).take n := by rw [List.drop_take]; congr 1; omega
def PF2U (P : Program) (fv : Value) (M : Hp) (f : Int → Int → Int × Int) : Prop := fv.oneCell' = true ∧ ∀ x i : Int, Pu P fv M [.int .i64 x, .int .i64 i] (fun r _ => r = .tuple #[.int .i64 (f x i).1, .int .i64 (f x i).2])
theorem PF2U.le {P : Program} {fv : Value} {M M' : Hp} {f : Int → Int → Int × Int} (h : PF2U P fv M f) (hM : Hp.le M M') : PF2U P fv M' f := ⟨h.1, fun x i => (h.2 x i).le hM⟩
def PF1U (P : Program) (fv : Value) (M : Hp) (f : Int → Int × Int) : Prop := fv.oneCell' = true ∧ ∀ x : Int, Pu P fv M [.int .i64 x] (fun r _ => r = .tuple #[.int .i64 (f x).1, .int .i64 (f x).2])
theorem PF1U.le {P : Program} {fv : Value} {M M' : Hp} {f : Int → Int × Int} (h : PF1U P fv M f) (hM : Hp.le M M') : PF1U P fv M' f := ⟨h.1, fun x => (h.2 x).le hM⟩
def PF2V (P : Program) (fv : Value) (M : Hp) (f : Int → Int → Int × Int × Bool) : Prop := fv.oneCell' = true ∧ ∀ x i : Int, Pu P fv M [.int .i64 x, .int .i64 i] (fun r _ => r = .tuple #[.int .i64 (f x i).1, .int .i64 (f x i).2.1, .bool (f x i).2.2])
theorem PF2V.le {P : Program} {fv : Value} {M M' : Hp} {f : Int → Int → Int × Int × Bool} (h : PF2V P fv M f) (hM : Hp.le M M') : PF2V P fv M' f := ⟨h.1, fun x i => (h.2 x i).le hM⟩
def RMp : Hp → List Value → List (Int × Int) → Prop := fun M cs q => ∃ v, cs = [v] ∧ RdM M v (encE (Value.int .i64) q)
theorem RdMp.at {M : Hp} {v : Value} {l : List (List (Int × Int))} {k : Nat} {e : List (Int × Int)} (h : RdS 1 RMp M v l) (he : l[k]? = some e) : ∃ p u, IdxPtr v k 1 p ∧ cellM M p = some u ∧ RdM M u (encE (Value.int .i64) e) := by
  obtain ⟨p, u, h1, h2, ⟨v, h3, h4⟩⟩ := h.at1 he
  cases h3; exact ⟨p, u, h1, h2, h4⟩
theorem RdPP.at {M : Hp} {v : Value} {l : List (List (Int × Int))} {k : Nat} {e : List (Int × Int)} (h : RdS 1 (RSl 2 RP2) M v l) (he : l[k]? = some e) : ∃ p u, IdxPtr v k 1 p ∧ cellM M p = some u ∧ RdS 2 RP2 M u e := by
  obtain ⟨p, u, h1, h2, ⟨v, h3, h4⟩⟩ := h.at1 he
  cases h3; exact ⟨p, u, h1, h2, h4⟩
theorem dec_t {p : Prop} [Decidable p] (h : p) : decide p = true := decide_eq_true h
theorem dec_f {p : Prop} [Decidable p] (h : p) : (!decide p) = false := by rw [decide_eq_true h]; rfl
section
variable {r : Option Nat} {P : Program} {ops : Array Oper} {Q : Exit → Act → World → Prop} {C : Nat → World → Prop} {bf : Nat → List Nat} {E : List (Nat × Nat)}
end
section
variable {r : Option Nat} {P : Program} {ops : Array Oper} {Q : Exit → Act → World → Prop} {E : List (Nat × Nat)}
end
def PFAB (P : Program) (fv : Value) (M : Hp) (f : Int × Int → Bool) : Prop := fv.oneCell' = true ∧ ∀ x y : Int, ((-9223372036854775808 ≤ x ∧ x ≤ 9223372036854775807) ∧ (-9223372036854775808 ≤ y ∧ y ≤ 9223372036854775807)) → Pu P fv M [.agg #[.int .i64 x, .int .i64 y]] (fun r _ => r = .bool (f (x, y)))
theorem PFAB.le {P : Program} {fv : Value} {M M' : Hp} {f : Int × Int → Bool} (h : PFAB P fv M f) (hM : Hp.le M M') : PFAB P fv M' f := ⟨h.1, fun x y g => (h.2 x y g).le hM⟩
def RA2 : Hp → List Value → List (Int × Int) × List (Int × Int) → Prop := fun M cs x => ∃ u v, cs = [u, v] ∧ RdS 2 RP2 M u x.1 ∧ RdS 2 RP2 M v x.2
theorem RdA2.at {M : Hp} {v : Value} {l : List (List (Int × Int) × List (Int × Int))} {k : Nat} {e : List (Int × Int) × List (Int × Int)} (h : RdS 2 RA2 M v l) (he : l[k]? = some e) : ∃ p u1 u2, IdxPtr v k 2 p ∧ cellsM M p [u1, u2] ∧ RdS 2 RP2 M u1 e.1 ∧ RdS 2 RP2 M u2 e.2 := by
  obtain ⟨p, cs, h1, h2, ⟨u1, u2, h3, h5, h6⟩, h4⟩ := RdS.at h he
  subst h3; exact ⟨p, u1, u2, h1, h4, h5, h6⟩
section
variable {r : Option Nat} {P : Program} {Q : Exit → Act → World → Prop} {a : Act} {w : World} {n : Nat} {ds : List Deferred} {l : List (Nat × Value)} {d : Nat} {ty t el : TypeId} {pos : String} {af : Array Edge} {gd : Option (Nat × Bool)} {x y : Operand} {next : Act → World → Prop} {M : Hp} {H : List HProp} {by_ : Nat}
end
abbrev MLE := List (Int × Value × List Int)
/-- a key with a frozen list -/
def RG2 : Hp → List Value → Int × List Int → Prop := fun M cs x => ∃ v, cs = [.int .i64 x.1, v] ∧ RdI M v x.2
theorem RdG2.at {M : Hp} {v : Value} {l : List (Int × List Int)} {k : Nat} {e : Int × List Int} (h : RdS 2 RG2 M v l) (he : l[k]? = some e) : ∃ p u, IdxPtr v k 2 p ∧ cellsM M p [.int .i64 e.1, u] ∧ RdI M u e.2 := by
  obtain ⟨p, cs, h1, h2, ⟨u, h3, h5⟩, h4⟩ := RdS.at h he
  subst h3; exact ⟨p, u, h1, h4, h5⟩
/-- a frozen map of frozen lists -/
def RdML (M : Hp) (v : Value) (q : List (Int × List Int)) : Prop := ∃ t : MLE, t.map (fun x => (x.1, x.2.2)) = q ∧ RdM M v (encE Prod.fst t) ∧ ∀ x ∈ t, RdI M x.2.1 x.2.2
theorem RdML.le {M M' : Hp} {v : Value} {q : List (Int × List Int)} (h : RdML M v q) (hM : Hp.le M M') : RdML M' v q := by
  obtain ⟨t, h1, h2, h3⟩ := h; exact ⟨t, h1, h2.le hM, fun x hx => (h3 x hx).le hM⟩
theorem RdML.one' {M : Hp} {v : Value} {q : List (Int × List Int)} (h : RdML M v q) : v.oneCell' = true := by obtain ⟨_, _, h, _⟩ := h; exact h.one'
theorem snoc_ind {P : List Int → Prop} (h0 : P []) (h1 : ∀ l x, P l → P (l ++ [x])) (l : List Int) : P l := by
  have : ∀ n (l : List Int), l.length = n → P l := by
    intro n
    induction n with
    | zero => intro l h; rw [List.eq_nil_of_length_eq_zero h]; exact h0
    | succ n ih =>
      intro l h
      have hne : l ≠ [] := by intro e; subst e; simp at h
      rw [(List.dropLast_concat_getLast hne).symm]
      exact h1 _ _ (ih _ (by simp [h]))
  exact this _ l rfl
section
variable {r : Option Nat} {P : Program} {Q : Exit → Act → World → Prop} {a : Act} {w : World}
  {n : Nat} {ds : List Deferred} {l : List (Nat × Value)} {ty t : TypeId} {pos : String} {af : Array Edge} {gd : Option (Nat × Bool)} {x y : Operand}
  {next : Act → World → Prop} {M : Hp} {H : List HProp}
end
section
variable {r : Option Nat} {P : Program} {Q : Exit → Act → World → Prop} {a : Act} {w : World}
  {n : Nat} {ds : List Deferred} {l : List (Nat × Value)} {d : Nat} {ty t el : TypeId} {pos : String} {af : Array Edge} {gd : Option (Nat × Bool)} {x y : Operand}
  {next : Act → World → Prop} {M : Hp} {H : List HProp} {v : Value} {by_ : Nat} {zv : Value}
end
/-! ### functions that panic, and a function that recovers -/
section
variable {P : Program}
/-- a call that panics with a value held as an interface -/
def CallP (P : Program) (fv : Value) (args : List Value) (w : World) (R : Value → World → Prop) : Prop :=
  ∀ (r : Option Nat) (o : Oper) (c : Call) (f : Operand) (a : Act) (next : Act → World → Prop) (Q : Exit → Act → World → Prop), o.op = .call c → c.callee = .value f → a.eval f = fv →
    c.args.toList.map a.eval = args → (∀ t u w', R (.iface t u) w' → Q (.panic [{ v := .iface t u, recovered := false }]) a w') → o.wpIn (Fw r) 0 P a w next Q
def PEnd (R : Value → World → Prop) : Ending → World → Prop := fun e w' => ∃ t u, e = .panicked [{ v := .iface t u, recovered := false }] ∧ R (.iface t u) w'
theorem CallP.func {g : FuncId} {first cap : Array Value} {args : List Value} {w : World} {R : Value → World → Prop}
    (hc : ∀ args w, (callFunc g args).run P w = .ok (.enter g args) w)
    (h : Calls P g (first.toList ++ args ++ cap.toList).toArray w (PEnd R)) : CallP P (.func (.func g) first cap) args w R := by
  intro r o c f a next Q h1 h2 h3 h4 h5
  refine ⟨fun _ _ => trivial, ?_⟩
  rw [semAt_nodefer (by rw [h1]; rfl)]
  have e4 : c.args.map a.eval = args.toArray := by rw [← h4, ← Array.toList_map, Array.toArray_toList]
  have : (execOp a.eval o).run P w = .ok (.enter g (first ++ args.toArray ++ cap)) w := by
    simp only [execOp, h1, resolve, h2, h3, e4, Deferred.ofValue]
    simp [invoke, hc]
  rw [this]
  refine ⟨fun h => by simp [Fw_depth] at h, ?_⟩
  rw [callsIn_Fw, show first ++ args.toArray ++ cap = (first.toList ++ args ++ cap.toList).toArray by simp]
  exact h.mono fun e w' ⟨t, u, he, hR⟩ => by subst he; exact h5 t u w' hR
/-- from the frozen memory M on: a call panics; what is owned stays -/
def PuP (P : Program) (fv : Value) (M : Hp) (args : List Value) : Prop :=
  ∀ w M1 H, Hp.le M M1 → St w M1 H → CallP P fv args w (fun _ w' => ∃ M2, Hp.le M1 M2 ∧ St w' M2 H)
theorem PuP.le {fv : Value} {M M' : Hp} {args : List Value} (h : PuP P fv M args) (hM : Hp.le M M') : PuP P fv M' args := fun w M1 H h1 => h w M1 H (hM.trans h1)
theorem PuP_enter {g : FuncId} {fn : Func} {c : Code} {first cap : Array Value} {args : List Value} {M : Hp}
    (hf : P.funcs[g]? = some fn) (hb : fn.body = some c) {m : Nat} (hm : fn.ntmps = m) (hl : Nat.ble (first.toList ++ args ++ cap.toList).length m = true)
    (hc : ∀ args w, (callFunc g args).run P w = .ok (.enter g args) w)
    (h : ∀ a w M1 H, Hp.le M M1 → St w M1 H → Env a m [] (initL (first.toList ++ args ++ cap.toList) 0) →
      WP none P c (FPost P fn (PEnd fun _ w' => ∃ M2, Hp.le M1 M2 ∧ St w' M2 H)) a w) : PuP P (.func (.func g) first cap) M args :=
  fun w M1 H hM S => CallP.func hc (Calls_enter hf hb hm hl fun a E => h a w M1 H hM S E)
/-- a function without arguments that panics -/
def PF0P (P : Program) (fv : Value) (M : Hp) : Prop := fv.oneCell' = true ∧ PuP P fv M []
theorem PF0P.le {fv : Value} {M M' : Hp} (h : PF0P P fv M) (hM : Hp.le M M') : PF0P P fv M' := ⟨h.1, h.2.le hM⟩
variable {Q : Exit → Act → World → Prop} {a : Act} {w : World} {n : Nat} {ds : List Deferred} {l : List (Nat × Value)} {fn : Func} {R : Ending → World → Prop} {M : Hp} {H : List HProp} {next : Act → World → Prop} {r : Option Nat}
theorem F_panic {ch : List PanicEntry} (E : Env a n [] l) (h : R (.panicked ch) w) : FPost P fn R (.panic ch) a w := by
  show LeavesInM _ _ _ _ _ _ a.defers _ w
  rw [E.dfr]; exact h
theorem F_panic0 {ch : List PanicEntry} {t : Array Value} (h : R (.panicked ch) w) : FPost P fn R (.panic ch) { tmps := t, defers := [] } w := h
theorem X_panic {dst : Option Nat} {x : Operand} {ty : TypeId} {pos : String} {af : Array Edge} {gd : Option (Nat × Bool)} {t : TypeId} {u : Value} (E : Env a n ds l) (hx : opv l x = some (.iface t u)) (h : Q (.panic [{ v := .iface t u, recovered := false }]) a w) :
    (⟨dst, .panic x, ty, pos, af, gd⟩ : Oper).wpIn (Fw r) 0 P a w next Q := by
  refine ⟨fun _ _ => trivial, ?_⟩
  rw [semAt_nodefer rfl]
  have : (execOp a.eval ⟨dst, .panic x, ty, pos, af, gd⟩).run P w = .halt (.panic (.iface t u)) w := by simp [execOp, E.eval hx, Instr.panic, Result.andThen]
  rw [this]; exact h
theorem X_puP {dst : Option Nat} {ty : TypeId} {ats : Array TypeId} {pos : String} {af : Array Edge} {gd : Option (Nat × Bool)} {f : Operand} {aa : Array Operand} {fv : Value} {args : List Value} {M0 : Hp}
    (E : Env a n ds l) (S : St w M H) (hf : opv l f = some fv) (ha : opvs l aa.toList = some args) (C : PuP P fv M0 args) (hM : Hp.le M0 M)
    (k : ∀ t u w' M', Hp.le M M' → St w' M' H → Q (.panic [{ v := .iface t u, recovered := false }]) a w') : (⟨dst, .call ⟨.value f, aa, ats⟩, ty, pos, af, gd⟩ : Oper).wpIn (Fw r) 0 P a w next Q :=
  C w M H hM S r _ _ f a _ Q rfl rfl (E.eval hf) (E.evals ha) fun t u w' ⟨M', h1, h2⟩ => k t u w' M' h1 h2
/-- a draw that ends by a panic -/
def PanQ (Q : Exit → Act → World → Prop) : Exit → Act → World → Prop
  | .panic c, a, w => a.defers = [] ∧ ∀ t, Q (.panic c) { tmps := t, defers := [] } w
  | e, a, w => Q e a w
theorem PanQ_p {c : List PanicEntry} (E : Env a n [] l) (h : ∀ t, Q (.panic c) { tmps := t, defers := [] } w) : PanQ Q (.panic c) a w := ⟨E.dfr, h⟩
theorem WP_drawnP {C : Nat → World → Prop} {bf : Nat → List Nat} {id : Nat} {L : List Oper} (q R : List Nat) (hm : P.follows .mixedOrders = true) (hB : drawB L.toArray q R bf = true) (hC : ∀ x, q.contains x = true → C x w.drew)
    (h : wpT r P L.toArray (PanQ Q) C bf q R a w.drew) : WP r P (.region id L.toArray true) Q a w :=
  wpIn_mono (WP_draw q R hm hB (fun _ d _ _ _ h => by cases d <;> exact h) hC h) fun e a w h => by
    cases e <;> first | exact h | (obtain ⟨h1, h2⟩ := h; have h3 := h2 a.tmps; rw [← h1] at h3; exact h3)
theorem R_ifaceS {d : Nat} {x : Operand} {t : TypeId} {ty : TypeId} {pos : String} {af : Array Edge} {gd : Option (Nat × Bool)} {v : Value} (E : Env a n ds l) (hx : opv l x = some v) (hu : P.underlying t = some .string) :
    (execOp a.eval ⟨some d, .makeInterface t x, ty, pos, af, gd⟩).run P w = .ok (.value (.iface t v)) w := by
  simp [execOp, E.eval hx, Instr.makeInterface, run_underlying hu]
/-- two results in cells, a deferred function that recovers and sets both -/
theorem F_panicDC2 {g : FuncId} {t t' : Tmp} {ty ty' e e' : TypeId} {b b' : Nat} {v v' u1 u2 u : Value} {T : TypeId} (E : Env a n [⟨.fn (.func g) #[.pointer (some ⟨b, 0, none⟩), .pointer (some ⟨b', 0, none⟩)], #[]⟩] l) (S : St w M (blk b (.cells #[v] e) :: blk b' (.cells #[v'] e') :: H)) (h : fn.results = #[.cell t ty, .cell t' ty'])
    (hp : Sl.look l t = some (.pointer (some ⟨b, 0, none⟩))) (hp' : Sl.look l t' = some (.pointer (some ⟨b', 0, none⟩))) (hg : ∀ w, (isAgg ty).run P w = .ok false w) (hg' : ∀ w, (isAgg ty').run P w = .ok false w)
    (hc : ∀ args w, (callFunc g args).run P w = .ok (.enter g args) w)
    (hD : ∀ w, w.heap[b]? = some (.cells #[v] e) → (w.setCell ⟨b, 0, none⟩ u1).heap[b']? = some (.cells #[v'] e') → CallsDIn (Fw none) 0 P g #[.pointer (some ⟨b, 0, none⟩), .pointer (some ⟨b', 0, none⟩)] (.panicking [{ v := .iface T u, recovered := false }]) w
      (fun e u' w' => e = .returned (.tuple #[]) ∧ u' = .panicking [{ v := .iface T u, recovered := true }] ∧ w' = (w.setCell ⟨b, 0, none⟩ u1).setCell ⟨b', 0, none⟩ u2))
    (hR : ∀ w', St w' M (blk b (.cells #[u1] e) :: blk b' (.cells #[u2] e') :: H) → R (.returned (.tuple #[u1, u2])) w') : FPost P fn R (.panic [{ v := .iface T u, recovered := false }]) a w := by
  show LeavesInM _ _ _ _ _ _ a.defers _ w
  rw [E.dfr]
  have hgb := S.get
  have S1 : St (w.setCell ⟨b, 0, none⟩ u1) M (blk b (.cells #[u1] e) :: blk b' (.cells #[v'] e') :: H) := by
    refine S.set ?_ fun c hc x hx => ?_
    · simp only [World.setCell]; rw [Array.getElem?_modify, if_pos rfl, hgb]; rfl
    · simp only [World.setCell]; rw [Array.getElem?_modify, if_neg (Ne.symm hc)]; exact hx
  have hgb' := S1.swap.get
  have S2 : St ((w.setCell ⟨b, 0, none⟩ u1).setCell ⟨b', 0, none⟩ u2) M (blk b (.cells #[u1] e) :: blk b' (.cells #[u2] e') :: H) := by
    refine St.swap (S1.swap.set ?_ fun c hc x hx => ?_)
    · simp only [World.setCell]; rw [Array.getElem?_modify, if_pos rfl, show (w.heap.modify b _)[b']? = _ from hgb']; rfl
    · simp only [World.setCell]; rw [Array.getElem?_modify, if_neg (Ne.symm hc)]; exact hx
  refine ⟨by simp, .inr ⟨by simp [Fw, Fence.wide], .func g, _, g, _, rfl, by simp [invoke, hc], fun _ _ => trivial, (hD w hgb hgb').mono ?_⟩⟩
  rintro _ _ _ ⟨rfl, rfl, rfl⟩
  show LeavesInM _ _ _ _ _ _ [] (settle _) _
  refine ⟨.tuple #[u1, u2], ?_, hR _ S2⟩
  have h1 := E.eval (o := .tmp t) hp
  have h2 := E.eval (o := .tmp t') hp'
  simp only [Act.eval, Array.getD_eq_getD_getElem?] at h1 h2
  simp [results, h, h1, h2, asAddr, run_cellvar hg S2.get, run_cellvar hg' S2.swap.get]
end
/-- a slice that is nil just where its list is empty -/
def NilV (v : Value) (l : List Int) : Prop := (l = [] → v = .slice none 0 0) ∧ (l ≠ [] → ∃ a m c, v = .slice (some a) m c)
theorem nilV {w : World} {M : Hp} {H : List HProp} {e : TypeId} {v : Value} {l : List Int} (S : St w M (OwnI e v l :: H)) (h : l = [] → v = .slice none 0 0) : NilV v l := by
  refine ⟨h, fun hne => ?_⟩
  obtain ⟨_, hc⟩ := S.ownCases
  rcases hc with ⟨rfl, hm, _⟩ | ⟨g, cap, cur, rfl, _⟩
  · exact absurd (List.eq_nil_of_length_eq_zero hm) hne
  · exact ⟨_, _, _, rfl⟩
section
variable {P : Program} {a : Act} {w : World} {n : Nat} {ds : List Deferred} {l : List (Nat × Value)} {d : Nat} {ty t t' el : TypeId} {pos : String} {af : Array Edge} {gd : Option (Nat × Bool)} {x y : Operand} {v : Value} {l' : List Int}
theorem eq_nilS (hu : P.underlying t = some (.slice el)) (h : NilV v l') (w : World) : (Op.equal t v (.slice none 0 0)).run P w = .ok (decide (l' = [])) w := by
  have e : ∀ m u, (Op.equalIn (m + 1) t (.slice u 0 0) (.slice none 0 0)).run P w = (Op.equalIn (m + 1) t (.slice u 0 0) (.slice none 0 0)).run P w := fun _ _ => rfl
  by_cases c : l' = []
  · rw [h.1 c, decide_eq_true c]
    have h' : ∀ m, (Op.equalIn (m + 1) t (.slice none 0 0) (.slice none 0 0)).run P w = .ok true w := fun m => by simp [Op.equalIn, underlying, hu]
    exact h' 9999
  · obtain ⟨b, m, c', e⟩ := h.2 c
    rw [e, decide_eq_false c]
    have h' : ∀ k, (Op.equalIn (k + 1) t (.slice (some b) m c') (.slice none 0 0)).run P w = .ok false w := fun k => by simp [Op.equalIn, underlying, hu]
    exact h' 9999
theorem R_eqlN (E : Env a n ds l) (hx : opv l x = some v) (hy : opv l y = some (.slice none 0 0)) (hu : P.underlying t = some (.slice el)) (h : NilV v l') :
    (execOp a.eval ⟨some d, .binOp .eql t x y t', ty, pos, af, gd⟩).run P w = .ok (.value (.bool (decide (l' = [])))) w := by
  have h1 := eq_nilS hu h w
  simp only [execOp, E.eval hx, E.eval hy]
  by_cases c : l' = []
  · rw [h.1 c] at h1 ⊢; simp [eqGuard, binOp, h1]
  · obtain ⟨b, m, c', e⟩ := h.2 c
    rw [e] at h1 ⊢; simp [eqGuard, binOp, h1]
theorem R_neqN (E : Env a n ds l) (hx : opv l x = some v) (hy : opv l y = some (.slice none 0 0)) (hu : P.underlying t = some (.slice el)) (h : NilV v l') :
    (execOp a.eval ⟨some d, .binOp .neq t x y t', ty, pos, af, gd⟩).run P w = .ok (.value (.bool (!decide (l' = [])))) w := by
  have h1 := eq_nilS hu h w
  simp only [execOp, E.eval hx, E.eval hy]
  by_cases c : l' = []
  · rw [h.1 c] at h1 ⊢; simp [eqGuard, binOp, h1]
  · obtain ⟨b, m, c', e⟩ := h.2 c
    rw [e] at h1 ⊢; simp [eqGuard, binOp, h1]
end
/-! chunks -/
def chF (n : Nat) (s : List (List Int) × List Int) (x : Int) : List (List Int) × List Int := if (s.2 ++ [x]).length = n then (s.1 ++ [s.2 ++ [x]], []) else (s.1, s.2 ++ [x])
def chS (n : Nat) (p : List Int) : List (List Int) × List Int := p.foldl (chF n) ([], [])
theorem chS_app (n : Nat) (p : List Int) (x : Int) : chS n (p ++ [x]) = chF n (chS n p) x := by simp [chS]
theorem ch_full {n : Nat} {p : List Int} {x : Int} (h : ((chS n p).2 ++ [x]).length = n) : chS n (p ++ [x]) = ((chS n p).1 ++ [(chS n p).2 ++ [x]], []) := by rw [chS_app]; exact if_pos h
theorem ch_part {n : Nat} {p : List Int} {x : Int} (h : ¬ ((chS n p).2 ++ [x]).length = n) : chS n (p ++ [x]) = ((chS n p).1, (chS n p).2 ++ [x]) := by rw [chS_app]; exact if_neg h
def chL (n : Nat) (l : List Int) : List (List Int) := (chS n l).1 ++ (if (chS n l).2 = [] then [] else [(chS n l).2])
theorem chL_some {n : Nat} {l : List Int} (h : (chS n l).2 ≠ []) : chL n l = (chS n l).1 ++ [(chS n l).2] := by unfold chL; rw [if_neg h]
theorem chL_none {n : Nat} {l : List Int} (h : (chS n l).2 = []) : chL n l = (chS n l).1 := by unfold chL; rw [if_pos h, List.append_nil]
theorem ch_lt {n : Nat} (hn : 0 < n) (p : List Int) : (chS n p).2.length < n := by
  induction p using snoc_ind with
  | h0 => exact hn
  | h1 p x ih =>
    by_cases c : ((chS n p).2 ++ [x]).length = n
    · rw [ch_full c]; exact hn
    · rw [ch_part c]; simp at c ⊢; omega
theorem ch_flat (n : Nat) (p : List Int) : (chS n p).1.flatten ++ (chS n p).2 = p := by
  induction p using snoc_ind with
  | h0 => rfl
  | h1 p x ih =>
    by_cases c : ((chS n p).2 ++ [x]).length = n
    · rw [ch_full c]; simp only [List.flatten_append, List.flatten_cons, List.flatten_nil, List.append_nil]; rw [← List.append_assoc, ih]
    · rw [ch_part c]; simp only []; rw [← List.append_assoc, ih]
theorem ch_all (n : Nat) (p : List Int) : ∀ c ∈ (chS n p).1, c.length = n := by
  induction p using snoc_ind with
  | h0 => intro c h; cases h
  | h1 p x ih =>
    by_cases c : ((chS n p).2 ++ [x]).length = n
    · rw [ch_full c]; intro d hd
      rcases List.mem_append.1 hd with h | h
      · exact ih d h
      · simp at h; rw [h]; exact c
    · rw [ch_part c]; exact ih
theorem ch_lens {n : Nat} (hn : 0 < n) (p : List Int) : (chS n p).1.length ≤ p.length ∧ (chS n p).2.length ≤ p.length := by
  induction p using snoc_ind with
  | h0 => exact ⟨Nat.le_refl _, Nat.le_refl _⟩
  | h1 p x ih =>
    by_cases c : ((chS n p).2 ++ [x]).length = n
    · rw [ch_full c]; simp; omega
    · rw [ch_part c]; simp; omega
theorem ch_pre1 (n : Nat) (p : List Int) (x : Int) : (chS n p).1 <+: (chS n (p ++ [x])).1 := by
  by_cases c : ((chS n p).2 ++ [x]).length = n
  · rw [ch_full c]; exact List.prefix_append _ _
  · rw [ch_part c]; exact List.prefix_refl _
theorem ch_pre2 (n : Nat) : ∀ (t p : List Int), (chS n p).1 <+: (chS n (p ++ t)).1
  | [], p => by rw [List.append_nil]; exact List.prefix_refl _
  | x :: t, p => by
    have := ch_pre2 n t (p ++ [x])
    rw [List.append_assoc, List.singleton_append] at this
    exact List.IsPrefix.trans (ch_pre1 n p x) this
theorem ch_pre {n : Nat} {p l : List Int} (h : p <+: l) : (chS n p).1 <+: chL n l := by
  obtain ⟨t, rfl⟩ := h
  exact List.IsPrefix.trans (ch_pre2 n t p) (List.prefix_append _ _)
theorem ch_tell {n : Nat} {p l : List Int} {x : Int} (h : p ++ [x] <+: l) (c : ((chS n p).2 ++ [x]).length = n) : (chS n p).1 ++ [(chS n p).2 ++ [x]] <+: chL n l := by
  have := ch_pre (n := n) h
  rw [ch_full c] at this; exact this
theorem chL_flat (n : Nat) (l : List Int) : (chL n l).flatten = l := by
  by_cases c : (chS n l).2 = []
  · rw [chL_none c]; have := ch_flat n l; rw [c, List.append_nil] at this; exact this
  · rw [chL_some c, List.flatten_append]; simp only [List.flatten_cons, List.flatten_nil, List.append_nil]; exact ch_flat n l
theorem chL_len {n : Nat} (hn : 0 < n) (l : List Int) : (chL n l).length ≤ l.length := by
  by_cases c : (chS n l).2 = []
  · rw [chL_none c]; exact (ch_lens hn l).1
  · have h1 := congrArg List.length (ch_flat n l)
    rw [chL_some c]
    have h2 : (chS n l).1.length ≤ (chS n l).1.flatten.length := by
      have ha := ch_all n l
      generalize (chS n l).1 = A at ha
      induction A with
      | nil => exact Nat.le_refl _
      | cons a A ih =>
        have h3 := ha a (List.mem_cons_self ..)
        have h4 := ih fun c hc => ha c (List.mem_cons_of_mem _ hc)
        rw [List.flatten_cons, List.length_append, List.length_cons]; omega
    have h3 : 0 < (chS n l).2.length := List.length_pos_iff.2 c
    rw [List.length_append] at h1
    rw [List.length_append, List.length_singleton]; omega
/-- each chunk has the size, but the last one -/
theorem chL_at {n i : Nat} {l y : List Int} (hn : 0 < n) (h : (chL n l)[i]? = some y) : y.length = n ∨ (i + 1 = (chL n l).length ∧ 0 < y.length ∧ y.length < n) := by
  by_cases c : (chS n l).2 = []
  · rw [chL_none c] at h; exact .inl (ch_all n l y (List.mem_of_getElem? h))
  · rw [chL_some c] at h ⊢
    rw [List.getElem?_append] at h
    split at h
    · exact .inl (ch_all n l y (List.mem_of_getElem? h))
    · rename_i hi
      have hlt := (List.getElem?_eq_some_iff.1 h).1
      simp at hlt
      have e : i - (chS n l).1.length = 0 := by omega
      rw [e] at h
      have e2 : (chS n l).2 = y := by simpa using h
      refine .inr ⟨by simp; omega, by rw [← e2]; exact List.length_pos_iff.2 c, by rw [← e2]; exact ch_lt hn l⟩
/-- blocks of the size -/
theorem ch_block {n : Nat} : ∀ (c p : List Int), (chS n p).2 ++ c = (chS n p).2 ++ c → (chS n p).2.length + c.length < n → chS n (p ++ c) = ((chS n p).1, (chS n p).2 ++ c)
  | [], p, _, _ => by rw [List.append_nil, List.append_nil]
  | x :: c, p, _, h => by
    have h1 : ¬ ((chS n p).2 ++ [x]).length = n := by simp at h ⊢; omega
    have h2 := ch_block c (p ++ [x]) rfl (by rw [ch_part h1]; simp at h ⊢; omega)
    rw [List.append_assoc, List.singleton_append] at h2
    rw [h2, ch_part h1]; simp
theorem ch_next {n : Nat} (hn : 0 < n) {p c : List Int} (h : (chS n p).2 = []) (hc : c.length = n) : chS n (p ++ c) = ((chS n p).1 ++ [c], []) := by
  have hne : c ≠ [] := by intro e; subst e; simp at hc; omega
  have e : c = c.dropLast ++ [c.getLast hne] := (List.dropLast_concat_getLast hne).symm
  have hl : c.dropLast.length = n - 1 := by rw [List.length_dropLast, hc]
  have h1 := ch_block (n := n) c.dropLast p rfl (by rw [h]; simp; omega)
  have h2 : chS n (p ++ c) = chS n ((p ++ c.dropLast) ++ [c.getLast hne]) := by rw [List.append_assoc, ← e]
  rw [h2, ch_full (by rw [h1, h]; simp; omega), h1, h]
  simp only [List.nil_append]
  rw [← e]
theorem ch_win {n : Nat} (hn : 0 < n) (l : List Int) : ∀ k, k * n ≤ l.length → chS n (l.take (k * n)) = (winL n n l k, [])
  | 0, _ => by simp [chS, winL]
  | k + 1, h => by
    rw [Nat.succ_mul] at h ⊢
    have ih := ch_win hn l k (by omega)
    have e : l.take (k * n + n) = l.take (k * n) ++ (l.drop (k * n)).take n := by rw [List.take_add]
    rw [e, ch_next hn (by rw [ih]) (by rw [List.length_take, List.length_drop]; omega), ih]
    simp only []
    rw [winL_succ]
theorem ch_end {n k : Nat} (hn : 0 < n) {l : List Int} (h1 : k * n ≤ l.length) (h2 : l.length < k * n + n) : chS n l = (winL n n l k, l.drop (k * n)) := by
  have hw := ch_win hn l k h1
  have h3 := ch_block (n := n) (l.drop (k * n)) (l.take (k * n)) rfl (by rw [hw]; simp; omega)
  rw [List.take_append_drop, hw] at h3
  simpa using h3
/-- all windows, the last one perhaps not full -/
theorem win_chL {n k : Nat} (hn : 0 < n) {l : List Int} (h : l.length ≤ k * n) (h2 : k = 0 ∨ (k - 1) * n < l.length) : winL n n l k = chL n l := by
  rcases h2 with rfl | h2
  · have : l = [] := List.eq_nil_of_length_eq_zero (by omega)
    subst this; rfl
  · obtain ⟨m, rfl⟩ : ∃ m, k = m + 1 := ⟨k - 1, by cases k with
      | zero => simp only [Nat.zero_sub, Nat.zero_mul] at h h2; omega
      | succ m => omega⟩
    simp only [Nat.add_sub_cancel] at h2
    rw [Nat.succ_mul] at h
    by_cases hf : l.length = m * n + n
    · have hw := ch_win hn l (m + 1) (by rw [Nat.succ_mul]; omega)
      rw [List.take_of_length_le (by rw [Nat.succ_mul]; omega)] at hw
      rw [chL_none (by rw [hw]), hw]
    · have hw := ch_end hn (by omega) (show l.length < m * n + n by omega)
      rw [chL_some (by rw [hw]; intro e; have := congrArg List.length e; simp at this; omega), hw]
      simp only []
      rw [← winL_succ, List.take_of_length_le (by simp; omega)]
theorem ceil_ok {n m : Nat} (hn : 0 < n) (h : m % n ≠ 0) : m ≤ (m / n + 1) * n ∧ m / n * n < m := by
  have h1 := Nat.div_add_mod m n
  have h2 := Nat.mod_lt m hn
  rw [Nat.mul_comm] at h1
  rw [Nat.succ_mul]; omega
theorem ceil_ok0 {n m : Nat} (hn : 0 < n) (h : m % n = 0) : m ≤ m / n * n ∧ (m / n = 0 ∨ (m / n - 1) * n < m) := by
  have h1 := Nat.div_add_mod m n
  rw [Nat.mul_comm] at h1
  refine ⟨by omega, ?_⟩
  rcases Nat.eq_zero_or_pos (m / n) with e | e
  · exact .inl e
  · refine .inr ?_
    obtain ⟨k, hk⟩ : ∃ k, m / n = k + 1 := ⟨m / n - 1, by omega⟩
    rw [hk] at h1 ⊢
    rw [Nat.succ_mul] at h1
    simp only [Nat.add_sub_cancel]; omega
/-! a buffer as its own yield -/
def bufJ (tl e : TypeId) (n b : Nat) (J : List (List Int) → Hp → HProp → Prop) : List Int → Hp → HProp → Prop := fun p M c => ∃ u c', c = bigs [blk b (.cells #[u] tl), OwnI e u (chS n p).2, c'] ∧ J (chS n p).1 M c'
def bufX (tl e : TypeId) (n b : Nat) (X : List (List Int) → Hp → HProp → Prop) : List Int → Hp → HProp → Prop := fun p M c => ∃ u c', c = bigs [blk b (.cells #[u] tl), OwnI e u [], c'] ∧ X (chS n p).1 M c'
theorem bufJ_JM {tl e : TypeId} {n b : Nat} {J : List (List Int) → Hp → HProp → Prop} (h : JM J) : JM (bufJ tl e n b J) := fun _ _ _ _ hM ⟨u, c', e, hj⟩ => ⟨u, c', e, h _ _ _ _ hM hj⟩
theorem YieldOK_enter {P : Program} {α : Type} {g : FuncId} {fn : Func} {cd : Code} {cap : Array Value} {M0 : Hp} {RV : Hp → List Value → α → Prop} {l : List α} {J X : List α → Hp → HProp → Prop} {k : Nat}
    (hf : P.funcs[g]? = some fn) (hb : fn.body = some cd) {m : Nat} (hm : fn.ntmps = m) (hl : Nat.ble (k + cap.toList.length) m = true) (hk : ∀ M vs x, RV M vs x → vs.length = k)
    (hc : ∀ args w, (callFunc g args).run P w = .ok (.enter g args) w)
    (h : ∀ pre x vs a w M c H, Hp.le M0 M → pre ++ [x] <+: l → RV M vs x → J pre M c → St w M (c :: H) → Env a m [] (initL (vs ++ cap.toList) 0) →
      WP none P cd (FPost P fn fun e w' => ∃ r, e = .returned r ∧ ∃ M' c' go, Hp.le M M' ∧ r = .bool go ∧ (if go then J (pre ++ [x]) M' c' else X (pre ++ [x]) M' c') ∧ St w' M' (c' :: H)) a w) : YieldOK P (.func (.func g) #[] cap) M0 RV l J X :=
  ⟨rfl, fun pre x vs w M c H hM hp hx hJ S => CallV.func hc (by
    have hv := hk _ _ _ hx
    exact Calls_enter hf hb hm (by simp at hl ⊢; omega) fun a E => h pre x vs a w M c H hM hp hx hJ S (by simpa using E))⟩
theorem X_seqW {P : Program} {α : Type} {r : Option Nat} {a : Act} {w : World} {n d : Nat} {ds : List Deferred} {l : List (Nat × Value)} {ty : TypeId} {ats : Array TypeId} {pos : String} {af : Array Edge} {gd : Option (Nat × Bool)} {f : Operand} {aa : Array Operand} {next : Act → World → Prop} {Q : Exit → Act → World → Prop}
    {M M0 M1 : Hp} {H : List HProp} {c : HProp} {y sv : Value} {RV : Hp → List Value → α → Prop} {xs : List α} {J X : List α → Hp → HProp → Prop}
    (E : Env a n ds l) (S : St w M (c :: H)) (hd : Nat.blt d n = true) (hf : opv l f = some sv) (ha : opvs l aa.toList = some [y]) (hs : SeqV P sv M0 RV xs) (h0 : Hp.le M0 M) (hJ : JM J)
    (hY : YieldOK P y M1 RV xs J X) (hM : Hp.le M1 M) (h : J [] M c)
    (k : ∀ a v w' M' c', Hp.le M M' → (J xs M' c' ∨ ∃ p, p <+: xs ∧ X p M' c') → St w' M' (c' :: H) → Env a n ds ((d, v) :: l) → next a w') :
    (⟨some d, .call ⟨.value f, aa, ats⟩, ty, pos, af, gd⟩ : Oper).wpIn (Fw r) 0 P a w next Q :=
  X_call E hd hf ha (CallF.call (hs.2 y J X hJ M h0 (hY.le hM) w M c H (Hp.le.refl _) h S)) fun a v w' ⟨M', c', h1, h2, h3⟩ E => k a v w' M' c' h1 h2 h3 E

def chunkR (n : Nat) (l : List Int) : List (List Int) := if 0 < n then chL n l else []
theorem chunkR_pos {n : Nat} (h : 0 < n) (l : List Int) : chunkR n l = chL n l := if_pos h
theorem ck_win0 {n k : Nat} (hn : 0 < n) {l : List Int} (h : k * n ≤ l.length) (h2 : (l.drop (k * n)).length = 0) : winL n n l k = chL n l := by
  rw [List.length_drop] at h2
  refine win_chL hn (by omega) ?_
  rcases Nat.eq_zero_or_pos k with e | e
  · exact .inl e
  · refine .inr ?_
    obtain ⟨m, rfl⟩ : ∃ m, k = m + 1 := ⟨k - 1, by omega⟩
    rw [Nat.succ_mul] at h; simp only [Nat.add_sub_cancel]; omega
theorem ck_win1 {n k : Nat} (hn : 0 < n) {l : List Int} (h : k * n ≤ l.length) (h2 : 0 < (l.drop (k * n)).length) (h3 : (l.drop (k * n)).length ≤ n) : winL n n l k ++ [l.drop (k * n)] = chL n l := by
  rw [List.length_drop] at h2 h3
  have e : winL n n l (k + 1) = chL n l := win_chL hn (by rw [Nat.succ_mul]; omega) (.inr (by simp only [Nat.add_sub_cancel]; omega))
  rw [← winL_succ, List.take_of_length_le (by simp; omega)] at e; exact e
theorem ck_drop {n k : Nat} {l : List Int} : (l.drop (k * n)).drop n = l.drop ((k + 1) * n) := by rw [List.drop_drop, Nat.succ_mul]
theorem ck_step {n k : Nat} {l : List Int} (h : n < (l.drop (k * n)).length) : (k + 1) * n ≤ l.length := by rw [List.length_drop] at h; rw [Nat.succ_mul]; omega
theorem copy_all {n : Nat} {s : List Int} (h : s.length = n) : s.take (List.replicate n (0 : Int)).length ++ (List.replicate n (0 : Int)).drop s.length = s := by
  rw [List.length_replicate, List.take_of_length_le (by omega), List.drop_eq_nil_of_le (by simp; omega), List.append_nil]
theorem ck_cut {n k : Nat} {l : List Int} (h : (k + 1) * n ≤ l.length) : (l.take ((k + 1) * n)).drop (k * n) = (l.drop (k * n)).take n := by rw [Nat.succ_mul]; exact sub_win
theorem ck_cutL {n k : Nat} {l : List Int} (h : l.length < (k + 1) * n) : (l.take l.length).drop (k * n) = (l.drop (k * n)).take n := by
  rw [List.take_length, List.take_of_length_le]; rw [List.length_drop]; rw [Nat.succ_mul] at h; omega

set_option maxRecDepth 100000 in
set_option maxHeartbeats 4000000 in
theorem impl_trieds {M : Hp} {v0 : Value} {l0 : List (List Int)} (h0 : PF0M Try.prog v0 M l0) :
    Pu Try.prog (.func (.func 66) #[] #[]) M [v0] (fun r M' => ∃ t0, r = .tuple #[t0, .bool true] ∧ RdII M' t0 l0) := by
  refine Pu_enter Try.func66 rfl Try.ntmps66 rfl Try.call66 ?_
  intro a w M1 H hM1 S E
  replace h0 := h0.le hM1
  refine WP_seq ?_
  refine WP_region ?_
  refine S_x (X_alloc (cs := #[.slice none 0 0]) E S rfl Try.zeroValue34 rfl ?_)
  clear E a S; rintro a w b_1 E S
  refine S_x (X_alloc (cs := #[.bool false]) E S rfl Try.zeroValue4 rfl ?_)
  clear E a S; rintro a w b_2 E S
  refine WL_nil ?_
  refine T_n ?_
  refine WP_seq ?_
  refine WP_region ?_
  refine S_v E rfl (R_makeFunc E rfl rfl) rfl ?_
  clear E a; intro a E
  refine S_defer E rfl ?_
  clear E a; intro a E
  replace E : Env a 7 [⟨.fn (.func 107) #[.pointer (some ⟨b_1, 0, none⟩), .pointer (some ⟨b_2, 0, none⟩)], #[]⟩] _ := E
  refine WL_nil ?_
  refine T_n ?_
  refine WP_seq ?_
  refine WP_region ?_
  refine S_v E rfl (R_move E rfl) rfl ?_
  clear E a; intro a E
  refine S_x (X_pu E S rfl rfl rfl (h0.2 ) (Hp.le.refl _) ?_)
  clear E a S; rintro a v_4 w M_3 hM_3 hv_4 S E
  replace h0 := h0.le hM_3
  replace S := S.front1
  refine S_x0 (X_store E S rfl rfl (Try.sizeOf34 _) (RdS.one' hv_4) ?_)
  clear E a S; rintro a w E S
  replace S := S.front1
  refine S_x0 (X_store E S rfl rfl (Try.sizeOf4 _) rfl ?_)
  clear E a S; rintro a w E S
  refine WL_nil ?_
  refine T_n ?_
  refine WP_ret ?_
  replace S := S.front1
  exact F_retDC2 E S Try.results66 rfl rfl (fun w => Try.isAgg34 w) (fun w => Try.isAgg4 w) Try.call107 (fun w => recover_none Try.func107 rfl Try.results107 Try.ntmps107 rfl rfl (by simp) (run_eq_nilIface Try.underlying20)) ⟨_, rfl, M_3, hM_3, ⟨_, (by first | rfl | (simp; done) | (simp_all; done)), hv_4⟩, S.drop.drop⟩

set_option maxRecDepth 100000 in
set_option maxHeartbeats 4000000 in
theorem lo_Chunk {M : Hp} {v0 : Value} {l0 : List Int} (h0 : RdI M v0 l0){n1 : Nat} (hn : 0 < n1) (hb1 : n1 ≤ 1000000) (hb : l0.length ≤ 1000000) :
    Pu Try.prog (.func (.func 68) #[] #[]) M [v0, .int .i64 ((n1 : Nat) : Int)] (fun r M' => RdII M' r (chL n1 l0)) := by
  refine Pu_enter Try.func68 rfl Try.ntmps68 rfl Try.call68 ?_
  intro a w M1 H hM1 S E
  replace h0 := h0.le hM1
  have b0 := h0.bound
  refine WP_seq ?_
  refine WP_region ?_
  refine S_v E rfl (R_assign E rfl) rfl ?_
  clear E a; intro a E
  refine WL_nil ?_
  refine T_n ?_
  refine WP_seq ?_
  refine WP_seq ?_
  refine WP_region ?_
  refine S_v E rfl (R_move E rfl) rfl ?_
  clear E a; intro a E
  refine S_v E rfl (R_leq E rfl rfl) rfl ?_
  clear E a; intro a E
  refine WL_nil ?_
  refine T_n ?_
  have hc_1 : (decide (((n1 : Nat) : Int) ≤ 0)) = false := by (apply decide_eq_false; omega)
  refine WP_condF E rfl hc_1 ?_
  refine WP_skip ?_
  refine T_n ?_
  refine WP_seq ?_
  refine WP_region ?_
  refine S_v E rfl (R_move E rfl) rfl ?_
  clear E a; intro a E
  refine S_v E rfl (R_lenV E rfl T33 h0.len) rfl ?_
  clear E a; intro a E
  refine S_v E rfl (R_move E rfl) rfl ?_
  clear E a; intro a E
  refine S_v E rfl (R_quon (p := (l0).length) (q := n1) E rfl rfl (by omega) (by omega)) rfl ?_
  clear E a; intro a E
  refine S_v E rfl (R_assign E rfl) rfl ?_
  clear E a; intro a E
  refine WL_nil ?_
  refine T_n ?_
  refine WP_seq ?_
  refine WP_seq ?_
  refine WP_region ?_
  refine S_v E rfl (R_move E rfl) rfl ?_
  clear E a; intro a E
  refine S_v E rfl (R_lenV E rfl T33 h0.len) rfl ?_
  clear E a; intro a E
  refine S_v E rfl (R_move E rfl) rfl ?_
  clear E a; intro a E
  refine S_v E rfl (R_remn (p := (l0).length) (q := n1) E rfl rfl (by omega)) rfl ?_
  clear E a; intro a E
  refine S_v E rfl (R_neq E rfl rfl) rfl ?_
  clear E a; intro a E
  refine WL_nil ?_
  refine T_n ?_
  refine WP_cond E rfl (fun hc_2 => ?_) (fun hc_2 => ?_)
  · replace hc_2 := of_decide_eq_true hc_2
    obtain ⟨qd, hxd⟩ : ∃ q, q = l0.length / n1 := ⟨_, rfl⟩
    have h1q := ceil_ok hn (m := l0.length) (by omega)
    rw [← hxd] at h1q
    have h0q := Nat.div_mul_le_self l0.length n1
    rw [← hxd] at h0q
    have h2q : qd ≤ l0.length := by rw [hxd]; exact Nat.div_le_self _ _
    have h3q : (qd + 1) * n1 = qd * n1 + n1 := Nat.succ_mul ..
    replace E := E.ival (t := 5) (c := ((qd : Nat) : Int)) rfl (by omega)
    refine WP_region ?_
    refine S_v E rfl (R_move E rfl) rfl ?_
    clear E a; intro a E
    refine S_v E rfl (R_addx (m := ((qd + 1 : Nat) : Int)) E rfl rfl (by (first | omega | (push_cast; rfl) | (rw [← Int.natCast_mul]; omega))) (by (first | omega | (push_cast; rfl) | (rw [← Int.natCast_mul]; omega)))) rfl ?_
    clear E a; intro a E
    refine S_v E rfl (R_assign E rfl) rfl ?_
    clear E a; intro a E
    refine WL_nil ?_
    refine T_n ?_
    refine WP_seq ?_
    refine WP_region ?_
    refine S_v E rfl (R_move E rfl) rfl ?_
    clear E a; intro a E
    refine S_x (X_make0 (k := qd + 1) E S rfl rfl rfl T34 rfl (by omega) (by first | omega | (simp; omega)) (by first | omega | (simp; omega)) ?_)
    clear E a S; rintro a w v_3 E S
    have hr_4 : RowsR (RSl 1 RInt) 1 M1 ([] : List (List Int)) [] := RowsR.nil
    replace S : St w M1 (OwnC 33 1 v_3 ([] : List (List Int)).length [] :: _) := S
    refine S_v E rfl (R_assign E rfl) rfl ?_
    clear E a; intro a E
    refine WL_nil ?_
    refine T_n ?_
    refine WP_seq ?_
    refine WP_seq ?_
    refine WP_region ?_
    refine S_v E rfl (R_assign E rfl) rfl ?_
    clear E a; intro a E
    refine WL_nil ?_
    refine T_n ?_
    refine WP_block ?_
    have hre : ([] : List (List Int)) = winL n1 n1 l0 0 := by first | rfl | exact winL_succ _ _ _ _
    replace S := S.reR hre
    replace hr_4 := hr_4.eq hre
    clear hre
    refine WP_loop (γ := Nat) (fun (k : Nat) a w => ∃ (M_5 : Hp) (u6 : Value) (xs6 : List Value), Hp.le M1 M_5 ∧ St w M_5 (OwnC 33 1 u6 (winL n1 n1 l0 k).length xs6 :: H) ∧ Env a 60 [] [(0, v0), (1, .int .i64 ((n1 : Nat) : Int)), (5, .int .i64 ((qd + 1 : Nat) : Int)), (6, u6), (7, .int .i64 ((k : Nat) : Int))] ∧ (k ≤ qd + 1) ∧ (k = 0 ∨ (k - 1) * n1 < l0.length) ∧ RowsR (RSl 1 RInt) 1 M_5 (winL n1 n1 l0 k) xs6) (fun k => qd + 2 - k) 0 ⟨M1, _, _, Hp.le.refl _, S, E.keep ⟨rfl, rfl, rfl, rfl, rfl, trivial⟩, (by omega), (by left; rfl), hr_4⟩ ?_
    try clear E
    try clear S
    try clear a
    try clear w
    rintro k a w ⟨M_5, u6, xs6, hM_5, S, E, hL0_0, hL0_1, hr6⟩
    replace h0 := h0.le hM_5
    have hk0 : (k + 1) * n1 = k * n1 + n1 := Nat.succ_mul ..
    have hkd0 : k * n1 ≤ (qd + 1) * n1 := Nat.mul_le_mul_right _ (by omega)
    have hwl := winL_len n1 n1 l0 k
    refine WP_seq ?_
    refine WP_seq ?_
    refine WP_region ?_
    refine S_v E rfl (R_move E rfl) rfl ?_
    clear E a; intro a E
    refine S_v E rfl (R_move E rfl) rfl ?_
    clear E a; intro a E
    refine S_v E rfl (R_lss E rfl rfl) rfl ?_
    clear E a; intro a E
    refine WL_nil ?_
    refine T_n ?_
    refine WP_cond E rfl (fun hc_6 => ?_) (fun hc_6 => ?_)
    · replace hc_6 := of_decide_eq_true hc_6
      have hkd : k * n1 ≤ qd * n1 := Nat.mul_le_mul_right _ (by omega)
      have hke : k + 1 ≤ qd → (k + 1) * n1 ≤ qd * n1 := fun h => Nat.mul_le_mul_right _ h
      refine WP_skip ?_
      refine T_n ?_
      refine WP_seq ?_
      refine WP_block ?_
      refine WP_seq ?_
      refine WP_region ?_
      refine S_v E rfl (R_move E rfl) rfl ?_
      clear E a; intro a E
      refine S_v E rfl (R_addx (m := ((k + 1 : Nat) : Int)) E rfl rfl (by (first | omega | (push_cast; rfl) | (rw [← Int.natCast_mul]; omega))) (by (first | omega | (push_cast; rfl) | (rw [← Int.natCast_mul]; omega)))) rfl ?_
      clear E a; intro a E
      refine S_v E rfl (R_move E rfl) rfl ?_
      clear E a; intro a E
      refine S_v E rfl (R_mulx (m := (((k + 1) * n1 : Nat) : Int)) E rfl rfl (by (first | omega | (push_cast; rfl) | (rw [← Int.natCast_mul]; omega))) (by (first | omega | (push_cast; rfl) | (rw [← Int.natCast_mul]; omega)))) rfl ?_
      clear E a; intro a E
      refine S_v E rfl (R_assign E rfl) rfl ?_
      clear E a; intro a E
      refine WL_nil ?_
      refine T_n ?_
      refine WP_seq ?_
      refine WP_seq ?_
      refine WP_region ?_
      refine S_v E rfl (R_move E rfl) rfl ?_
      clear E a; intro a E
      refine S_v E rfl (R_move E rfl) rfl ?_
      clear E a; intro a E
      refine S_v E rfl (R_lenV E rfl T33 h0.len) rfl ?_
      clear E a; intro a E
      refine S_v E rfl (R_gtr E rfl rfl) rfl ?_
      clear E a; intro a E
      refine WL_nil ?_
      refine T_n ?_
      refine WP_cond E rfl (fun hc_7 => ?_) (fun hc_7 => ?_)
      · replace hc_7 := of_decide_eq_true hc_7
        refine WP_region ?_
        refine S_v E rfl (R_move E rfl) rfl ?_
        clear E a; intro a E
        refine S_v E rfl (R_lenV E rfl T33 h0.len) rfl ?_
        clear E a; intro a E
        refine S_v E rfl (R_assign E rfl) rfl ?_
        clear E a; intro a E
        refine WL_nil ?_
        refine T_n ?_
        refine WP_seq ?_
        refine WP_region ?_
        refine S_v E rfl (R_move E rfl) rfl ?_
        clear E a; intro a E
        refine S_v E rfl (R_move E rfl) rfl ?_
        clear E a; intro a E
        refine S_v E rfl (R_move E rfl) rfl ?_
        clear E a; intro a E
        refine S_v E rfl (R_mulx (m := ((k * n1 : Nat) : Int)) E rfl rfl (by (first | omega | (push_cast; rfl) | (rw [← Int.natCast_mul]; omega))) (by (first | omega | (push_cast; rfl) | (rw [← Int.natCast_mul]; omega)))) rfl ?_
        clear E a; intro a E
        refine S_v E rfl (R_subx (m := (((l0).length - (k * n1) : Nat) : Int)) E rfl rfl (by (first | omega | (push_cast; rfl) | (rw [← Int.natCast_mul]; omega))) (by (first | omega | (push_cast; rfl) | (rw [← Int.natCast_mul]; omega)))) rfl ?_
        clear E a; intro a E
        refine S_x (X_makeN (k := (l0).length - (k * n1)) E S rfl rfl rfl T33 (by omega) (by omega) (by first | omega | (simp; omega)) (by first | omega | (simp; omega)) ?_)
        clear E a S; rintro a w v_8 E S
        replace S := S.madeI
        refine S_v E rfl (R_assign E rfl) rfl ?_
        clear E a; intro a E
        refine WL_nil ?_
        refine T_n ?_
        refine WP_seq ?_
        refine WP_region ?_
        refine S_v E rfl (R_move E rfl) rfl ?_
        clear E a; intro a E
        refine S_v E rfl (R_move E rfl) rfl ?_
        clear E a; intro a E
        refine S_v E rfl (R_move E rfl) rfl ?_
        clear E a; intro a E
        refine S_v E rfl (R_move E rfl) rfl ?_
        clear E a; intro a E
        refine S_v E rfl (R_mulx (m := ((k * n1 : Nat) : Int)) E rfl rfl (by (first | omega | (push_cast; rfl) | (rw [← Int.natCast_mul]; omega))) (by (first | omega | (push_cast; rfl) | (rw [← Int.natCast_mul]; omega)))) rfl ?_
        clear E a; intro a E
        refine S_v E rfl (R_move E rfl) rfl ?_
        clear E a; intro a E
        obtain ⟨v_9, sv_9, hv_9⟩ := h0.subv (k * n1) ((l0).length) (by first | omega | (simp; done) | (simp; omega) | (simp_all; omega)) (by first | omega | (simp; done) | (simp; omega) | (simp_all; omega))
        replace hv_9 : RdI M_5 v_9 (((l0).take ((l0).length)).drop (k * n1)) := hv_9
        refine S_v E rfl (R_sliceLH E rfl rfl rfl T33 sv_9 (by omega) (by omega)) rfl ?_
        clear E a; intro a E
        refine S_x (X_copyI (xs := (List.replicate ((l0).length - (k * n1)) (0 : Int))) (ys := ((l0).take ((l0).length)).drop (k * n1)) E S rfl rfl rfl T33 hv_9 ?_)
        clear E a S; rintro a w E S
        replace S := S.re1 (l' := (l0.drop (k * n1)).take n1) (by (first | (rw [ck_cut (by omega)]; exact copy_all (by rw [List.length_take, List.length_drop]; omega)) | (rw [ck_cutL (by omega)]; exact copy_all (by rw [List.length_take, List.length_drop]; omega))))
        refine WL_nil ?_
        refine T_n ?_
        refine WP_region ?_
        refine S_v E rfl (R_move E rfl) rfl ?_
        clear E a; intro a E
        refine S_v E rfl (R_move E rfl) rfl ?_
        clear E a; intro a E
        have S0 := S; clear S
        obtain ⟨M_11, hM_11, hz_12, S⟩ := S0.freezeI (by (first | omega | (simp only [winL_len]; omega) | (simp; omega)))
        clear S0
        replace h0 := h0.le hM_11
        replace hr6 := hr6.le (RSl_mono RInt_mono) hM_11
        replace hv_9 := hv_9.le hM_11
        refine S_x (X_buildM (R := RSl 1 RInt) (vs := [v_8]) (xs := [(l0.drop (k * n1)).take n1]) (RSl_mono RInt_mono) E S rfl T34 rfl rfl rfl (by intro u hu; simp only [List.mem_cons, List.not_mem_nil, or_false] at hu; rcases hu with rfl <;> first | exact RdI.one hz_12 | rfl) rfl (rowsC (R := RSl 1 RInt) (RdI.row hz_12) rowsN) ?_)
        clear E a S; rintro a v_10 w M_13 hM_13 hv_10 S E
        replace hv_10 : RdII M_13 v_10 [(l0.drop (k * n1)).take n1] := hv_10
        replace h0 := h0.le hM_13
        replace hr6 := hr6.le (RSl_mono RInt_mono) hM_13
        replace hv_9 := hv_9.le hM_13
        replace hz_12 := hz_12.le hM_13
        refine S_x (X_appendR (R := (RSl 1 RInt)) (zs := winL n1 n1 l0 k) (ys := [(l0.drop (k * n1)).take n1]) E S hr6 rfl rfl rfl T34 hv_10 one_RSl (by (simp only [winL_len, List.length_cons, List.length_nil]; omega)) (by (simp only [winL_len, List.length_cons, List.length_nil]; omega)) ?_)
        clear E a S; rintro a w v_14 xs_15 E hr_16 S
        refine S_v E rfl (R_assign E rfl) rfl ?_
        clear E a; intro a E
        refine WL_nil ?_
        refine B_n ?_
        refine T_n ?_
        refine WP_region ?_
        refine S_v E rfl (R_move E rfl) rfl ?_
        clear E a; intro a E
        refine S_v E rfl (R_addx (m := ((k + 1 : Nat) : Int)) E rfl rfl (by (first | omega | (push_cast; rfl) | (rw [← Int.natCast_mul]; omega))) (by (first | omega | (push_cast; rfl) | (rw [← Int.natCast_mul]; omega)))) rfl ?_
        clear E a; intro a E
        refine S_v E rfl (R_assign E rfl) rfl ?_
        clear E a; intro a E
        refine WL_nil ?_
        refine T_n ?_
        have hre : (winL n1 n1 l0 k) ++ [(l0.drop (k * n1)).take n1] = winL n1 n1 l0 (k + 1) := by first | rfl | exact winL_succ _ _ _ _
        replace S := S.reR hre
        replace hr_16 := hr_16.eq hre
        clear hre
        exact ⟨k + 1, ⟨M_13, _, _, (hM_5.trans (hM_11.trans hM_13)), S, E.keep ⟨rfl, rfl, rfl, rfl, rfl, trivial⟩, (by omega), (by right; simp only [Nat.add_sub_cancel]; first | omega | (have h9 := hke (by omega); omega)), hr_16⟩, by omega⟩
      · replace hc_7 := of_decide_eq_false hc_7
        refine WP_skip ?_
        refine T_n ?_
        refine WP_seq ?_
        refine WP_region ?_
        refine S_v E rfl (R_move E rfl) rfl ?_
        clear E a; intro a E
        refine S_v E rfl (R_move E rfl) rfl ?_
        clear E a; intro a E
        refine S_v E rfl (R_move E rfl) rfl ?_
        clear E a; intro a E
        refine S_v E rfl (R_mulx (m := ((k * n1 : Nat) : Int)) E rfl rfl (by (first | omega | (push_cast; rfl) | (rw [← Int.natCast_mul]; omega))) (by (first | omega | (push_cast; rfl) | (rw [← Int.natCast_mul]; omega)))) rfl ?_
        clear E a; intro a E
        refine S_v E rfl (R_subx (m := (((k + 1) * n1 - (k * n1) : Nat) : Int)) E rfl rfl (by (first | omega | (push_cast; rfl) | (rw [← Int.natCast_mul]; omega))) (by (first | omega | (push_cast; rfl) | (rw [← Int.natCast_mul]; omega)))) rfl ?_
        clear E a; intro a E
        refine S_x (X_makeN (k := (k + 1) * n1 - (k * n1)) E S rfl rfl rfl T33 (by omega) (by omega) (by first | omega | (simp; omega)) (by first | omega | (simp; omega)) ?_)
        clear E a S; rintro a w v_17 E S
        replace S := S.madeI
        refine S_v E rfl (R_assign E rfl) rfl ?_
        clear E a; intro a E
        refine WL_nil ?_
        refine T_n ?_
        refine WP_seq ?_
        refine WP_region ?_
        refine S_v E rfl (R_move E rfl) rfl ?_
        clear E a; intro a E
        refine S_v E rfl (R_move E rfl) rfl ?_
        clear E a; intro a E
        refine S_v E rfl (R_move E rfl) rfl ?_
        clear E a; intro a E
        refine S_v E rfl (R_move E rfl) rfl ?_
        clear E a; intro a E
        refine S_v E rfl (R_mulx (m := ((k * n1 : Nat) : Int)) E rfl rfl (by (first | omega | (push_cast; rfl) | (rw [← Int.natCast_mul]; omega))) (by (first | omega | (push_cast; rfl) | (rw [← Int.natCast_mul]; omega)))) rfl ?_
        clear E a; intro a E
        refine S_v E rfl (R_move E rfl) rfl ?_
        clear E a; intro a E
        obtain ⟨v_18, sv_18, hv_18⟩ := h0.subv (k * n1) ((k + 1) * n1) (by first | omega | (simp; done) | (simp; omega) | (simp_all; omega)) (by first | omega | (simp; done) | (simp; omega) | (simp_all; omega))
        replace hv_18 : RdI M_5 v_18 (((l0).take ((k + 1) * n1)).drop (k * n1)) := hv_18
        refine S_v E rfl (R_sliceLH E rfl rfl rfl T33 sv_18 (by omega) (by omega)) rfl ?_
        clear E a; intro a E
        refine S_x (X_copyI (xs := (List.replicate ((k + 1) * n1 - (k * n1)) (0 : Int))) (ys := ((l0).take ((k + 1) * n1)).drop (k * n1)) E S rfl rfl rfl T33 hv_18 ?_)
        clear E a S; rintro a w E S
        replace S := S.re1 (l' := (l0.drop (k * n1)).take n1) (by (first | (rw [ck_cut (by omega)]; exact copy_all (by rw [List.length_take, List.length_drop]; omega)) | (rw [ck_cutL (by omega)]; exact copy_all (by rw [List.length_take, List.length_drop]; omega))))
        refine WL_nil ?_
        refine T_n ?_
        refine WP_region ?_
        refine S_v E rfl (R_move E rfl) rfl ?_
        clear E a; intro a E
        refine S_v E rfl (R_move E rfl) rfl ?_
        clear E a; intro a E
        have S0 := S; clear S
        obtain ⟨M_20, hM_20, hz_21, S⟩ := S0.freezeI (by (first | omega | (simp only [winL_len]; omega) | (simp; omega)))
        clear S0
        replace h0 := h0.le hM_20
        replace hr6 := hr6.le (RSl_mono RInt_mono) hM_20
        replace hv_18 := hv_18.le hM_20
        refine S_x (X_buildM (R := RSl 1 RInt) (vs := [v_17]) (xs := [(l0.drop (k * n1)).take n1]) (RSl_mono RInt_mono) E S rfl T34 rfl rfl rfl (by intro u hu; simp only [List.mem_cons, List.not_mem_nil, or_false] at hu; rcases hu with rfl <;> first | exact RdI.one hz_21 | rfl) rfl (rowsC (R := RSl 1 RInt) (RdI.row hz_21) rowsN) ?_)
        clear E a S; rintro a v_19 w M_22 hM_22 hv_19 S E
        replace hv_19 : RdII M_22 v_19 [(l0.drop (k * n1)).take n1] := hv_19
        replace h0 := h0.le hM_22
        replace hr6 := hr6.le (RSl_mono RInt_mono) hM_22
        replace hv_18 := hv_18.le hM_22
        replace hz_21 := hz_21.le hM_22
        refine S_x (X_appendR (R := (RSl 1 RInt)) (zs := winL n1 n1 l0 k) (ys := [(l0.drop (k * n1)).take n1]) E S hr6 rfl rfl rfl T34 hv_19 one_RSl (by (simp only [winL_len, List.length_cons, List.length_nil]; omega)) (by (simp only [winL_len, List.length_cons, List.length_nil]; omega)) ?_)
        clear E a S; rintro a w v_23 xs_24 E hr_25 S
        refine S_v E rfl (R_assign E rfl) rfl ?_
        clear E a; intro a E
        refine WL_nil ?_
        refine B_n ?_
        refine T_n ?_
        refine WP_region ?_
        refine S_v E rfl (R_move E rfl) rfl ?_
        clear E a; intro a E
        refine S_v E rfl (R_addx (m := ((k + 1 : Nat) : Int)) E rfl rfl (by (first | omega | (push_cast; rfl) | (rw [← Int.natCast_mul]; omega))) (by (first | omega | (push_cast; rfl) | (rw [← Int.natCast_mul]; omega)))) rfl ?_
        clear E a; intro a E
        refine S_v E rfl (R_assign E rfl) rfl ?_
        clear E a; intro a E
        refine WL_nil ?_
        refine T_n ?_
        have hre : (winL n1 n1 l0 k) ++ [(l0.drop (k * n1)).take n1] = winL n1 n1 l0 (k + 1) := by first | rfl | exact winL_succ _ _ _ _
        replace S := S.reR hre
        replace hr_25 := hr_25.eq hre
        clear hre
        exact ⟨k + 1, ⟨M_22, _, _, (hM_5.trans (hM_20.trans hM_22)), S, E.keep ⟨rfl, rfl, rfl, rfl, rfl, trivial⟩, (by omega), (by right; simp only [Nat.add_sub_cancel]; first | omega | (have h9 := hke (by omega); omega)), hr_25⟩, by omega⟩
    · replace hc_6 := of_decide_eq_false hc_6
      refine WP_exit ?_
      refine T_x ?_
      refine T_x ?_
      refine B_x ?_
      refine T_n ?_
      refine WP_seq ?_
      refine WP_region ?_
      refine S_v E rfl (R_move E rfl) rfl ?_
      clear E a; intro a E
      refine S_v E rfl (R_assign E rfl) rfl ?_
      clear E a; intro a E
      refine WL_nil ?_
      refine T_n ?_
      refine WP_ret ?_
      have S0 := S; clear S
      obtain ⟨M_26, hM_26, hz_27, S⟩ := S0.freezeR hr6 (RSl_mono RInt_mono) (by (first | omega | (simp only [winL_len]; omega) | (simp; omega)))
      clear S0
      replace hz_27 : RdII M_26 u6 (winL n1 n1 l0 k) := hz_27
      replace h0 := h0.le hM_26
      exact F_ret1 E Try.results68 rfl ⟨_, rfl, M_26, (hM_5.trans hM_26), (by rw [show (chL n1 l0) = (winL n1 n1 l0 k) from by (symm; exact win_chL hn (Nat.le_trans h1q.1 (Nat.mul_le_mul_right _ (by omega))) (by assumption))]; exact hz_27), S⟩
  · replace hc_2 := of_decide_eq_false hc_2
    obtain ⟨qd, hxd⟩ : ∃ q, q = l0.length / n1 := ⟨_, rfl⟩
    have h1q := ceil_ok0 hn (m := l0.length) (by omega)
    rw [← hxd] at h1q
    have h0q := Nat.div_mul_le_self l0.length n1
    rw [← hxd] at h0q
    have h2q : qd ≤ l0.length := by rw [hxd]; exact Nat.div_le_self _ _
    have h3q : (qd + 1) * n1 = qd * n1 + n1 := Nat.succ_mul ..
    replace E := E.ival (t := 5) (c := ((qd : Nat) : Int)) rfl (by omega)
    refine WP_skip ?_
    refine T_n ?_
    refine WP_seq ?_
    refine WP_region ?_
    refine S_v E rfl (R_move E rfl) rfl ?_
    clear E a; intro a E
    refine S_x (X_make0 (k := qd) E S rfl rfl rfl T34 rfl (by omega) (by first | omega | (simp; omega)) (by first | omega | (simp; omega)) ?_)
    clear E a S; rintro a w v_28 E S
    have hr_29 : RowsR (RSl 1 RInt) 1 M1 ([] : List (List Int)) [] := RowsR.nil
    replace S : St w M1 (OwnC 33 1 v_28 ([] : List (List Int)).length [] :: _) := S
    refine S_v E rfl (R_assign E rfl) rfl ?_
    clear E a; intro a E
    refine WL_nil ?_
    refine T_n ?_
    refine WP_seq ?_
    refine WP_seq ?_
    refine WP_region ?_
    refine S_v E rfl (R_assign E rfl) rfl ?_
    clear E a; intro a E
    refine WL_nil ?_
    refine T_n ?_
    refine WP_block ?_
    have hre : ([] : List (List Int)) = winL n1 n1 l0 0 := by first | rfl | exact winL_succ _ _ _ _
    replace S := S.reR hre
    replace hr_29 := hr_29.eq hre
    clear hre
    refine WP_loop (γ := Nat) (fun (k : Nat) a w => ∃ (M_30 : Hp) (u6 : Value) (xs6 : List Value), Hp.le M1 M_30 ∧ St w M_30 (OwnC 33 1 u6 (winL n1 n1 l0 k).length xs6 :: H) ∧ Env a 60 [] [(0, v0), (1, .int .i64 ((n1 : Nat) : Int)), (5, .int .i64 ((qd : Nat) : Int)), (6, u6), (7, .int .i64 ((k : Nat) : Int))] ∧ (k ≤ qd + 1) ∧ (k = 0 ∨ (k - 1) * n1 < l0.length) ∧ RowsR (RSl 1 RInt) 1 M_30 (winL n1 n1 l0 k) xs6) (fun k => qd + 2 - k) 0 ⟨M1, _, _, Hp.le.refl _, S, E.keep ⟨rfl, rfl, rfl, rfl, rfl, trivial⟩, (by omega), (by left; rfl), hr_29⟩ ?_
    try clear E
    try clear S
    try clear a
    try clear w
    rintro k a w ⟨M_30, u6, xs6, hM_30, S, E, hL0_0, hL0_1, hr6⟩
    replace h0 := h0.le hM_30
    have hk0 : (k + 1) * n1 = k * n1 + n1 := Nat.succ_mul ..
    have hkd0 : k * n1 ≤ (qd + 1) * n1 := Nat.mul_le_mul_right _ (by omega)
    have hwl := winL_len n1 n1 l0 k
    refine WP_seq ?_
    refine WP_seq ?_
    refine WP_region ?_
    refine S_v E rfl (R_move E rfl) rfl ?_
    clear E a; intro a E
    refine S_v E rfl (R_move E rfl) rfl ?_
    clear E a; intro a E
    refine S_v E rfl (R_lss E rfl rfl) rfl ?_
    clear E a; intro a E
    refine WL_nil ?_
    refine T_n ?_
    refine WP_cond E rfl (fun hc_31 => ?_) (fun hc_31 => ?_)
    · replace hc_31 := of_decide_eq_true hc_31
      have hkd : k * n1 ≤ qd * n1 := Nat.mul_le_mul_right _ (by omega)
      have hke : k + 1 ≤ qd → (k + 1) * n1 ≤ qd * n1 := fun h => Nat.mul_le_mul_right _ h
      refine WP_skip ?_
      refine T_n ?_
      refine WP_seq ?_
      refine WP_block ?_
      refine WP_seq ?_
      refine WP_region ?_
      refine S_v E rfl (R_move E rfl) rfl ?_
      clear E a; intro a E
      refine S_v E rfl (R_addx (m := ((k + 1 : Nat) : Int)) E rfl rfl (by (first | omega | (push_cast; rfl) | (rw [← Int.natCast_mul]; omega))) (by (first | omega | (push_cast; rfl) | (rw [← Int.natCast_mul]; omega)))) rfl ?_
      clear E a; intro a E
      refine S_v E rfl (R_move E rfl) rfl ?_
      clear E a; intro a E
      refine S_v E rfl (R_mulx (m := (((k + 1) * n1 : Nat) : Int)) E rfl rfl (by (first | omega | (push_cast; rfl) | (rw [← Int.natCast_mul]; omega))) (by (first | omega | (push_cast; rfl) | (rw [← Int.natCast_mul]; omega)))) rfl ?_
      clear E a; intro a E
      refine S_v E rfl (R_assign E rfl) rfl ?_
      clear E a; intro a E
      refine WL_nil ?_
      refine T_n ?_
      refine WP_seq ?_
      refine WP_seq ?_
      refine WP_region ?_
      refine S_v E rfl (R_move E rfl) rfl ?_
      clear E a; intro a E
      refine S_v E rfl (R_move E rfl) rfl ?_
      clear E a; intro a E
      refine S_v E rfl (R_lenV E rfl T33 h0.len) rfl ?_
      clear E a; intro a E
      refine S_v E rfl (R_gtr E rfl rfl) rfl ?_
      clear E a; intro a E
      refine WL_nil ?_
      refine T_n ?_
      refine WP_cond E rfl (fun hc_32 => ?_) (fun hc_32 => ?_)
      · replace hc_32 := of_decide_eq_true hc_32
        refine WP_region ?_
        refine S_v E rfl (R_move E rfl) rfl ?_
        clear E a; intro a E
        refine S_v E rfl (R_lenV E rfl T33 h0.len) rfl ?_
        clear E a; intro a E
        refine S_v E rfl (R_assign E rfl) rfl ?_
        clear E a; intro a E
        refine WL_nil ?_
        refine T_n ?_
        refine WP_seq ?_
        refine WP_region ?_
        refine S_v E rfl (R_move E rfl) rfl ?_
        clear E a; intro a E
        refine S_v E rfl (R_move E rfl) rfl ?_
        clear E a; intro a E
        refine S_v E rfl (R_move E rfl) rfl ?_
        clear E a; intro a E
        refine S_v E rfl (R_mulx (m := ((k * n1 : Nat) : Int)) E rfl rfl (by (first | omega | (push_cast; rfl) | (rw [← Int.natCast_mul]; omega))) (by (first | omega | (push_cast; rfl) | (rw [← Int.natCast_mul]; omega)))) rfl ?_
        clear E a; intro a E
        refine S_v E rfl (R_subx (m := (((l0).length - (k * n1) : Nat) : Int)) E rfl rfl (by (first | omega | (push_cast; rfl) | (rw [← Int.natCast_mul]; omega))) (by (first | omega | (push_cast; rfl) | (rw [← Int.natCast_mul]; omega)))) rfl ?_
        clear E a; intro a E
        refine S_x (X_makeN (k := (l0).length - (k * n1)) E S rfl rfl rfl T33 (by omega) (by omega) (by first | omega | (simp; omega)) (by first | omega | (simp; omega)) ?_)
        clear E a S; rintro a w v_33 E S
        replace S := S.madeI
        refine S_v E rfl (R_assign E rfl) rfl ?_
        clear E a; intro a E
        refine WL_nil ?_
        refine T_n ?_
        refine WP_seq ?_
        refine WP_region ?_
        refine S_v E rfl (R_move E rfl) rfl ?_
        clear E a; intro a E
        refine S_v E rfl (R_move E rfl) rfl ?_
        clear E a; intro a E
        refine S_v E rfl (R_move E rfl) rfl ?_
        clear E a; intro a E
        refine S_v E rfl (R_move E rfl) rfl ?_
        clear E a; intro a E
        refine S_v E rfl (R_mulx (m := ((k * n1 : Nat) : Int)) E rfl rfl (by (first | omega | (push_cast; rfl) | (rw [← Int.natCast_mul]; omega))) (by (first | omega | (push_cast; rfl) | (rw [← Int.natCast_mul]; omega)))) rfl ?_
        clear E a; intro a E
        refine S_v E rfl (R_move E rfl) rfl ?_
        clear E a; intro a E
        obtain ⟨v_34, sv_34, hv_34⟩ := h0.subv (k * n1) ((l0).length) (by first | omega | (simp; done) | (simp; omega) | (simp_all; omega)) (by first | omega | (simp; done) | (simp; omega) | (simp_all; omega))
        replace hv_34 : RdI M_30 v_34 (((l0).take ((l0).length)).drop (k * n1)) := hv_34
        refine S_v E rfl (R_sliceLH E rfl rfl rfl T33 sv_34 (by omega) (by omega)) rfl ?_
        clear E a; intro a E
        refine S_x (X_copyI (xs := (List.replicate ((l0).length - (k * n1)) (0 : Int))) (ys := ((l0).take ((l0).length)).drop (k * n1)) E S rfl rfl rfl T33 hv_34 ?_)
        clear E a S; rintro a w E S
        replace S := S.re1 (l' := (l0.drop (k * n1)).take n1) (by (first | (rw [ck_cut (by omega)]; exact copy_all (by rw [List.length_take, List.length_drop]; omega)) | (rw [ck_cutL (by omega)]; exact copy_all (by rw [List.length_take, List.length_drop]; omega))))
        refine WL_nil ?_
        refine T_n ?_
        refine WP_region ?_
        refine S_v E rfl (R_move E rfl) rfl ?_
        clear E a; intro a E
        refine S_v E rfl (R_move E rfl) rfl ?_
        clear E a; intro a E
        have S0 := S; clear S
        obtain ⟨M_36, hM_36, hz_37, S⟩ := S0.freezeI (by (first | omega | (simp only [winL_len]; omega) | (simp; omega)))
        clear S0
        replace h0 := h0.le hM_36
        replace hr6 := hr6.le (RSl_mono RInt_mono) hM_36
        replace hv_34 := hv_34.le hM_36
        refine S_x (X_buildM (R := RSl 1 RInt) (vs := [v_33]) (xs := [(l0.drop (k * n1)).take n1]) (RSl_mono RInt_mono) E S rfl T34 rfl rfl rfl (by intro u hu; simp only [List.mem_cons, List.not_mem_nil, or_false] at hu; rcases hu with rfl <;> first | exact RdI.one hz_37 | rfl) rfl (rowsC (R := RSl 1 RInt) (RdI.row hz_37) rowsN) ?_)
        clear E a S; rintro a v_35 w M_38 hM_38 hv_35 S E
        replace hv_35 : RdII M_38 v_35 [(l0.drop (k * n1)).take n1] := hv_35
        replace h0 := h0.le hM_38
        replace hr6 := hr6.le (RSl_mono RInt_mono) hM_38
        replace hv_34 := hv_34.le hM_38
        replace hz_37 := hz_37.le hM_38
        refine S_x (X_appendR (R := (RSl 1 RInt)) (zs := winL n1 n1 l0 k) (ys := [(l0.drop (k * n1)).take n1]) E S hr6 rfl rfl rfl T34 hv_35 one_RSl (by (simp only [winL_len, List.length_cons, List.length_nil]; omega)) (by (simp only [winL_len, List.length_cons, List.length_nil]; omega)) ?_)
        clear E a S; rintro a w v_39 xs_40 E hr_41 S
        refine S_v E rfl (R_assign E rfl) rfl ?_
        clear E a; intro a E
        refine WL_nil ?_
        refine B_n ?_
        refine T_n ?_
        refine WP_region ?_
        refine S_v E rfl (R_move E rfl) rfl ?_
        clear E a; intro a E
        refine S_v E rfl (R_addx (m := ((k + 1 : Nat) : Int)) E rfl rfl (by (first | omega | (push_cast; rfl) | (rw [← Int.natCast_mul]; omega))) (by (first | omega | (push_cast; rfl) | (rw [← Int.natCast_mul]; omega)))) rfl ?_
        clear E a; intro a E
        refine S_v E rfl (R_assign E rfl) rfl ?_
        clear E a; intro a E
        refine WL_nil ?_
        refine T_n ?_
        have hre : (winL n1 n1 l0 k) ++ [(l0.drop (k * n1)).take n1] = winL n1 n1 l0 (k + 1) := by first | rfl | exact winL_succ _ _ _ _
        replace S := S.reR hre
        replace hr_41 := hr_41.eq hre
        clear hre
        exact ⟨k + 1, ⟨M_38, _, _, (hM_30.trans (hM_36.trans hM_38)), S, E.keep ⟨rfl, rfl, rfl, rfl, rfl, trivial⟩, (by omega), (by right; simp only [Nat.add_sub_cancel]; first | omega | (have h9 := hke (by omega); omega)), hr_41⟩, by omega⟩
      · replace hc_32 := of_decide_eq_false hc_32
        refine WP_skip ?_
        refine T_n ?_
        refine WP_seq ?_
        refine WP_region ?_
        refine S_v E rfl (R_move E rfl) rfl ?_
        clear E a; intro a E
        refine S_v E rfl (R_move E rfl) rfl ?_
        clear E a; intro a E
        refine S_v E rfl (R_move E rfl) rfl ?_
        clear E a; intro a E
        refine S_v E rfl (R_mulx (m := ((k * n1 : Nat) : Int)) E rfl rfl (by (first | omega | (push_cast; rfl) | (rw [← Int.natCast_mul]; omega))) (by (first | omega | (push_cast; rfl) | (rw [← Int.natCast_mul]; omega)))) rfl ?_
        clear E a; intro a E
        refine S_v E rfl (R_subx (m := (((k + 1) * n1 - (k * n1) : Nat) : Int)) E rfl rfl (by (first | omega | (push_cast; rfl) | (rw [← Int.natCast_mul]; omega))) (by (first | omega | (push_cast; rfl) | (rw [← Int.natCast_mul]; omega)))) rfl ?_
        clear E a; intro a E
        refine S_x (X_makeN (k := (k + 1) * n1 - (k * n1)) E S rfl rfl rfl T33 (by omega) (by omega) (by first | omega | (simp; omega)) (by first | omega | (simp; omega)) ?_)
        clear E a S; rintro a w v_42 E S
        replace S := S.madeI
        refine S_v E rfl (R_assign E rfl) rfl ?_
        clear E a; intro a E
        refine WL_nil ?_
        refine T_n ?_
        refine WP_seq ?_
        refine WP_region ?_
        refine S_v E rfl (R_move E rfl) rfl ?_
        clear E a; intro a E
        refine S_v E rfl (R_move E rfl) rfl ?_
        clear E a; intro a E
        refine S_v E rfl (R_move E rfl) rfl ?_
        clear E a; intro a E
        refine S_v E rfl (R_move E rfl) rfl ?_
        clear E a; intro a E
        refine S_v E rfl (R_mulx (m := ((k * n1 : Nat) : Int)) E rfl rfl (by (first | omega | (push_cast; rfl) | (rw [← Int.natCast_mul]; omega))) (by (first | omega | (push_cast; rfl) | (rw [← Int.natCast_mul]; omega)))) rfl ?_
        clear E a; intro a E
        refine S_v E rfl (R_move E rfl) rfl ?_
        clear E a; intro a E
        obtain ⟨v_43, sv_43, hv_43⟩ := h0.subv (k * n1) ((k + 1) * n1) (by first | omega | (simp; done) | (simp; omega) | (simp_all; omega)) (by first | omega | (simp; done) | (simp; omega) | (simp_all; omega))
        replace hv_43 : RdI M_30 v_43 (((l0).take ((k + 1) * n1)).drop (k * n1)) := hv_43
        refine S_v E rfl (R_sliceLH E rfl rfl rfl T33 sv_43 (by omega) (by omega)) rfl ?_
        clear E a; intro a E
        refine S_x (X_copyI (xs := (List.replicate ((k + 1) * n1 - (k * n1)) (0 : Int))) (ys := ((l0).take ((k + 1) * n1)).drop (k * n1)) E S rfl rfl rfl T33 hv_43 ?_)
        clear E a S; rintro a w E S
        replace S := S.re1 (l' := (l0.drop (k * n1)).take n1) (by (first | (rw [ck_cut (by omega)]; exact copy_all (by rw [List.length_take, List.length_drop]; omega)) | (rw [ck_cutL (by omega)]; exact copy_all (by rw [List.length_take, List.length_drop]; omega))))
        refine WL_nil ?_
        refine T_n ?_
        refine WP_region ?_
        refine S_v E rfl (R_move E rfl) rfl ?_
        clear E a; intro a E
        refine S_v E rfl (R_move E rfl) rfl ?_
        clear E a; intro a E
        have S0 := S; clear S
        obtain ⟨M_45, hM_45, hz_46, S⟩ := S0.freezeI (by (first | omega | (simp only [winL_len]; omega) | (simp; omega)))
        clear S0
        replace h0 := h0.le hM_45
        replace hr6 := hr6.le (RSl_mono RInt_mono) hM_45
        replace hv_43 := hv_43.le hM_45
        refine S_x (X_buildM (R := RSl 1 RInt) (vs := [v_42]) (xs := [(l0.drop (k * n1)).take n1]) (RSl_mono RInt_mono) E S rfl T34 rfl rfl rfl (by intro u hu; simp only [List.mem_cons, List.not_mem_nil, or_false] at hu; rcases hu with rfl <;> first | exact RdI.one hz_46 | rfl) rfl (rowsC (R := RSl 1 RInt) (RdI.row hz_46) rowsN) ?_)
        clear E a S; rintro a v_44 w M_47 hM_47 hv_44 S E
        replace hv_44 : RdII M_47 v_44 [(l0.drop (k * n1)).take n1] := hv_44
        replace h0 := h0.le hM_47
        replace hr6 := hr6.le (RSl_mono RInt_mono) hM_47
        replace hv_43 := hv_43.le hM_47
        replace hz_46 := hz_46.le hM_47
        refine S_x (X_appendR (R := (RSl 1 RInt)) (zs := winL n1 n1 l0 k) (ys := [(l0.drop (k * n1)).take n1]) E S hr6 rfl rfl rfl T34 hv_44 one_RSl (by (simp only [winL_len, List.length_cons, List.length_nil]; omega)) (by (simp only [winL_len, List.length_cons, List.length_nil]; omega)) ?_)
        clear E a S; rintro a w v_48 xs_49 E hr_50 S
        refine S_v E rfl (R_assign E rfl) rfl ?_
        clear E a; intro a E
        refine WL_nil ?_
        refine B_n ?_
        refine T_n ?_
        refine WP_region ?_
        refine S_v E rfl (R_move E rfl) rfl ?_
        clear E a; intro a E
        refine S_v E rfl (R_addx (m := ((k + 1 : Nat) : Int)) E rfl rfl (by (first | omega | (push_cast; rfl) | (rw [← Int.natCast_mul]; omega))) (by (first | omega | (push_cast; rfl) | (rw [← Int.natCast_mul]; omega)))) rfl ?_
        clear E a; intro a E
        refine S_v E rfl (R_assign E rfl) rfl ?_
        clear E a; intro a E
        refine WL_nil ?_
        refine T_n ?_
        have hre : (winL n1 n1 l0 k) ++ [(l0.drop (k * n1)).take n1] = winL n1 n1 l0 (k + 1) := by first | rfl | exact winL_succ _ _ _ _
        replace S := S.reR hre
        replace hr_50 := hr_50.eq hre
        clear hre
        exact ⟨k + 1, ⟨M_47, _, _, (hM_30.trans (hM_45.trans hM_47)), S, E.keep ⟨rfl, rfl, rfl, rfl, rfl, trivial⟩, (by omega), (by right; simp only [Nat.add_sub_cancel]; first | omega | (have h9 := hke (by omega); omega)), hr_50⟩, by omega⟩
    · replace hc_31 := of_decide_eq_false hc_31
      refine WP_exit ?_
      refine T_x ?_
      refine T_x ?_
      refine B_x ?_
      refine T_n ?_
      refine WP_seq ?_
      refine WP_region ?_
      refine S_v E rfl (R_move E rfl) rfl ?_
      clear E a; intro a E
      refine S_v E rfl (R_assign E rfl) rfl ?_
      clear E a; intro a E
      refine WL_nil ?_
      refine T_n ?_
      refine WP_ret ?_
      have S0 := S; clear S
      obtain ⟨M_51, hM_51, hz_52, S⟩ := S0.freezeR hr6 (RSl_mono RInt_mono) (by (first | omega | (simp only [winL_len]; omega) | (simp; omega)))
      clear S0
      replace hz_52 : RdII M_51 u6 (winL n1 n1 l0 k) := hz_52
      replace h0 := h0.le hM_51
      exact F_ret1 E Try.results68 rfl ⟨_, rfl, M_51, (hM_30.trans hM_51), (by rw [show (chL n1 l0) = (winL n1 n1 l0 k) from by (symm; exact win_chL hn (Nat.le_trans h1q.1 (Nat.mul_le_mul_right _ (by omega))) (by assumption))]; exact hz_52), S⟩

set_option maxRecDepth 100000 in
set_option maxHeartbeats 4000000 in
theorem impl_Chunk1 {M : Hp} {v0 : Value} {l0 : List Int} {n1 : Nat} (hn : 0 < n1) (hb1 : n1 ≤ 1000000) (hb : l0.length ≤ 1000000) {bx0 bx1 : Nat} (hbx0 : M bx0 = some (.cells #[v0] 33)) (h0 : RdI M v0 l0) (hbx1 : M bx1 = some (.cells #[.int .i64 (n1 : Int)] 3)) :
    Pu Try.prog (.func (.func 67) #[] #[.pointer (some ⟨bx0, 0, none⟩), .pointer (some ⟨bx1, 0, none⟩)]) M [] (fun r M' => RdII M' r (chL n1 l0)) := by
  refine Pu_enter Try.func67 rfl Try.ntmps67 rfl Try.call67 ?_
  intro a w M1 H hM1 S E
  replace hbx0 := hM1.2 _ _ hbx0
  replace hbx1 := hM1.2 _ _ hbx1
  replace h0 := h0.le hM1
  have b0 := h0.bound
  refine WP_seq ?_
  refine WP_region ?_
  refine S_v E rfl (R_assign E rfl) rfl ?_
  clear E a; intro a E
  refine WL_nil ?_
  refine T_n ?_
  refine WP_seq ?_
  refine WP_region ?_
  refine S_v E rfl (R_loadM E rfl Try.isAgg33 S.imm (cellM_box hbx0)) rfl ?_
  clear E a; intro a E
  refine S_v E rfl (R_loadM E rfl Try.isAgg3 S.imm (cellM_box hbx1)) rfl ?_
  clear E a; intro a E
  refine S_x (X_pu E S rfl rfl rfl (lo_Chunk h0 (by first | omega | (simp; done) | (simp; omega)) (by first | omega | (simp; done) | (simp; omega)) (by first | omega | (simp; done) | (simp; omega))) (Hp.le.refl _) ?_)
  clear E a S; rintro a v_2 w M_1 hM_1 hv_2 S E
  replace hbx0 := hM_1.2 _ _ hbx0
  replace hbx1 := hM_1.2 _ _ hbx1
  replace h0 := h0.le hM_1
  refine S_v E rfl (R_assign E rfl) rfl ?_
  clear E a; intro a E
  refine WL_nil ?_
  refine T_n ?_
  refine WP_ret ?_
  exact F_ret1 E Try.results67 rfl ⟨_, rfl, M_1, hM_1, hv_2, S⟩

set_option maxRecDepth 100000 in
set_option maxHeartbeats 4000000 in
theorem impl_trieds1R (b b' : Nat) (T : TypeId) (u : Value) (w : World) {v v' : Value} {e e' : TypeId} (h : w.heap[b]? = some (.cells #[v] e)) (h' : (w.setCell ⟨b, 0, none⟩ (.slice none 0 0)).heap[b']? = some (.cells #[v'] e')) :
    CallsDIn (Fw none) 0 Try.prog 107 #[.pointer (some ⟨b, 0, none⟩), .pointer (some ⟨b', 0, none⟩)] (.panicking [{ v := .iface T u, recovered := false }]) w
      (fun e u' w' => e = .returned (.tuple #[]) ∧ u' = .panicking [{ v := .iface T u, recovered := true }] ∧ w' = (w.setCell ⟨b, 0, none⟩ (.slice none 0 0)).setCell ⟨b', 0, none⟩ (.bool false)) := by
  have hc : w.cell? ⟨b, 0, none⟩ = some v := by simp [World.cell?, h]
  have hf : w.frozen? ⟨b, 0, none⟩ = false := by simp [World.frozen?, h]
  have hc' : (w.setCell ⟨b, 0, none⟩ (.slice none 0 0)).cell? ⟨b', 0, none⟩ = some v' := by simp [World.cell?, h']
  have hf' : (w.setCell ⟨b, 0, none⟩ (.slice none 0 0)).frozen? ⟨b', 0, none⟩ = false := by simp [World.frozen?, h']
  refine callsDIn_of_wpSIn Try.func107 rfl trivial fun c₀ cs hu => ?_
  apply wpSIn_seq
  apply wpSIn_region
  simp [wpOpsSIn, go_sem, recoverD, hu, Try.ntmps107, Exit.thenS]
  refine wpSIn_cond (t := true) (by simp [Act.eval, Array.replicate]) ?_
  simp only [if_true]
  apply wpSIn_region
  simp [wpOpsSIn, go_sem, hc, hf, hc', hf', bodyPostS, results, Try.results107, Try.sizeOf34]

set_option maxRecDepth 100000 in
set_option maxHeartbeats 4000000 in
theorem impl_triedsP {M : Hp} {v0 : Value} (h0 : PF0P Try.prog v0 M) :
    Pu Try.prog (.func (.func 66) #[] #[]) M [v0] (fun r M' => ∃ t0, r = .tuple #[t0, .bool false] ∧ RdII M' t0 ([] : List (List Int))) := by
  refine Pu_enter Try.func66 rfl Try.ntmps66 rfl Try.call66 ?_
  intro a w M1 H hM1 S E
  replace h0 := h0.le hM1
  refine WP_seq ?_
  refine WP_region ?_
  refine S_x (X_alloc (cs := #[.slice none 0 0]) E S rfl Try.zeroValue34 rfl ?_)
  clear E a S; rintro a w b_1 E S
  refine S_x (X_alloc (cs := #[.bool false]) E S rfl Try.zeroValue4 rfl ?_)
  clear E a S; rintro a w b_2 E S
  refine WL_nil ?_
  refine T_n ?_
  refine WP_seq ?_
  refine WP_region ?_
  refine S_v E rfl (R_makeFunc E rfl rfl) rfl ?_
  clear E a; intro a E
  refine S_defer E rfl ?_
  clear E a; intro a E
  replace E : Env a 7 [⟨.fn (.func 107) #[.pointer (some ⟨b_1, 0, none⟩), .pointer (some ⟨b_2, 0, none⟩)], #[]⟩] _ := E
  refine WL_nil ?_
  refine T_n ?_
  refine WP_seq ?_
  refine WP_region ?_
  refine S_v E rfl (R_move E rfl) rfl ?_
  clear E a; intro a E
  replace S := S.front1
  exact S_x (X_puP E S rfl rfl (h0.2) (Hp.le.refl _) (fun _ _ w M_ h S => F_panicDC2 E S Try.results66 rfl rfl (fun w => Try.isAgg34 w) (fun w => Try.isAgg4 w) Try.call107 (fun w h1 h2 => impl_trieds1R _ _ _ _ w h1 h2) (fun w S => ⟨_, rfl, M_, (((Hp.le.refl _)).trans h), ⟨_, rfl, RdS.nil _⟩, S.drop.drop⟩)))

set_option maxRecDepth 100000 in
set_option maxHeartbeats 4000000 in
theorem lo_ChunkP {M : Hp} {v0 : Value} {n1 : Nat} (hz : n1 = 0) :
    PuP Try.prog (.func (.func 68) #[] #[]) M [v0, .int .i64 ((n1 : Nat) : Int)] := by
  refine PuP_enter Try.func68 rfl Try.ntmps68 rfl Try.call68 ?_
  intro a w M1 H hM1 S E
  refine WP_seq ?_
  refine WP_region ?_
  refine S_v E rfl (R_assign E rfl) rfl ?_
  clear E a; intro a E
  refine WL_nil ?_
  refine T_n ?_
  refine WP_seq ?_
  refine WP_seq ?_
  refine WP_region ?_
  refine S_v E rfl (R_move E rfl) rfl ?_
  clear E a; intro a E
  refine S_v E rfl (R_leq E rfl rfl) rfl ?_
  clear E a; intro a E
  refine WL_nil ?_
  refine T_n ?_
  have hc_1 : (decide (((n1 : Nat) : Int) ≤ 0)) = true := by (apply decide_eq_true; omega)
  refine WP_condT E rfl hc_1 ?_
  refine WP_region ?_
  refine S_v E rfl (R_ifaceS E rfl Try.underlying9) rfl ?_
  clear E a; intro a E
  exact S_x0 (X_panic E rfl (F_panic E ⟨_, _, rfl, M1, (Hp.le.refl _), S⟩))

set_option maxRecDepth 100000 in
set_option maxHeartbeats 4000000 in
theorem impl_Chunk1P {M : Hp} {v0 : Value} {l0 : List Int} {n1 : Nat} (hz : n1 = 0) {bx0 bx1 : Nat} (hbx0 : M bx0 = some (.cells #[v0] 33)) (h0 : RdI M v0 l0) (hbx1 : M bx1 = some (.cells #[.int .i64 (n1 : Int)] 3)) :
    PuP Try.prog (.func (.func 67) #[] #[.pointer (some ⟨bx0, 0, none⟩), .pointer (some ⟨bx1, 0, none⟩)]) M [] := by
  refine PuP_enter Try.func67 rfl Try.ntmps67 rfl Try.call67 ?_
  intro a w M1 H hM1 S E
  replace hbx0 := hM1.2 _ _ hbx0
  replace hbx1 := hM1.2 _ _ hbx1
  replace h0 := h0.le hM1
  refine WP_seq ?_
  refine WP_region ?_
  refine S_v E rfl (R_assign E rfl) rfl ?_
  clear E a; intro a E
  refine WL_nil ?_
  refine T_n ?_
  refine WP_seq ?_
  refine WP_region ?_
  refine S_v E rfl (R_loadM E rfl Try.isAgg33 S.imm (cellM_box hbx0)) rfl ?_
  clear E a; intro a E
  refine S_v E rfl (R_loadM E rfl Try.isAgg3 S.imm (cellM_box hbx1)) rfl ?_
  clear E a; intro a E
  exact S_x (X_puP E S rfl rfl (lo_ChunkP (by first | assumption | rfl | omega)) (Hp.le.refl _) (fun _ _ w M_ h S => F_panic E ⟨_, _, rfl, M_, (((Hp.le.refl _)).trans h), S⟩))

set_option maxRecDepth 100000 in
set_option maxHeartbeats 4000000 in
theorem impl_Chunk_pos {M : Hp} {v0 : Value} {l0 : List Int} (h0 : RdI M v0 l0){n1 : Nat} (hn : 0 < n1) (hb1 : n1 ≤ 1000000) (hb : l0.length ≤ 1000000) :
    Pu Try.prog (.func (.func 18) #[] #[]) M [v0, .int .i64 ((n1 : Nat) : Int)] (fun r M' => ∃ t0, r = .tuple #[t0, .bool true] ∧ RdII M' t0 (chL n1 l0)) := by
  refine Pu_enter Try.func18 rfl Try.ntmps18 rfl Try.call18 ?_
  intro a w M1 H hM1 S E
  replace h0 := h0.le hM1
  have b0 := h0.bound
  refine WP_seq ?_
  refine WP_region ?_
  refine S_x (X_box (cs := #[v0]) E S rfl rfl (cells_one (RdS.one' h0)) ?_)
  clear E a S; rintro a w b_1 E S
  obtain ⟨M_2, hM_2, hb_1, S⟩ := S.freezeB
  replace h0 := h0.le hM_2
  refine S_x (X_box (cs := #[.int .i64 ((n1 : Nat) : Int)]) E S rfl rfl rfl ?_)
  clear E a S; rintro a w b_3 E S
  obtain ⟨M_4, hM_4, hb_3, S⟩ := S.freezeB
  replace h0 := h0.le hM_4
  replace hb_1 := hM_4.2 _ _ hb_1
  refine S_v E rfl (R_assign E rfl) rfl ?_
  clear E a; intro a E
  refine S_v E rfl (R_assign E rfl) rfl ?_
  clear E a; intro a E
  refine WL_nil ?_
  refine T_n ?_
  refine WP_seq ?_
  refine WP_region ?_
  refine S_v E rfl (R_makeFunc E rfl rfl) rfl ?_
  clear E a; intro a E
  refine S_x (X_pu E S rfl rfl rfl (impl_trieds ⟨rfl, impl_Chunk1  (by omega) (by omega) (by first | omega | (simp; done) | (simp; omega)) hb_1 h0 hb_3⟩) (Hp.le.refl _) ?_)
  clear E a S; rintro a _ w M_5 hM_5 ⟨v_6, rfl, hv_6⟩ S E
  replace h0 := h0.le hM_5
  replace hb_1 := hM_5.2 _ _ hb_1
  replace hb_3 := hM_5.2 _ _ hb_3
  refine S_v E rfl (R_extract E rfl rfl) rfl ?_
  clear E a; intro a E
  refine S_v E rfl (R_extract E rfl rfl) rfl ?_
  clear E a; intro a E
  refine S_v E rfl (R_assign E rfl) rfl ?_
  clear E a; intro a E
  refine S_v E rfl (R_assign E rfl) rfl ?_
  clear E a; intro a E
  refine WL_nil ?_
  refine T_n ?_
  refine WP_ret ?_
  exact F_ret2 E Try.results18 rfl rfl ⟨_, rfl, M_5, (hM_2.trans (hM_4.trans hM_5)), ⟨_, (by first | rfl | (simp; done) | (simp_all; done)), (by rw [show (chL n1 l0) = (chL n1 l0) from by ((try clear S); (try clear E); first | rfl | (simp; done) | (simp_all; done) | grind [List.take_add_one])]; exact hv_6)⟩, S⟩
theorem impl_Chunk_zero {M : Hp} {v0 : Value} {l0 : List Int} (h0 : RdI M v0 l0){n1 : Nat} (hz : n1 = 0) :
    Pu Try.prog (.func (.func 18) #[] #[]) M [v0, .int .i64 ((n1 : Nat) : Int)] (fun r M' => ∃ t0, r = .tuple #[t0, .bool false] ∧ RdII M' t0 ([] : List (List Int))) := by
  refine Pu_enter Try.func18 rfl Try.ntmps18 rfl Try.call18 ?_
  intro a w M1 H hM1 S E
  replace h0 := h0.le hM1
  have b0 := h0.bound
  refine WP_seq ?_
  refine WP_region ?_
  refine S_x (X_box (cs := #[v0]) E S rfl rfl (cells_one (RdS.one' h0)) ?_)
  clear E a S; rintro a w b_1 E S
  obtain ⟨M_2, hM_2, hb_1, S⟩ := S.freezeB
  replace h0 := h0.le hM_2
  refine S_x (X_box (cs := #[.int .i64 ((n1 : Nat) : Int)]) E S rfl rfl rfl ?_)
  clear E a S; rintro a w b_3 E S
  obtain ⟨M_4, hM_4, hb_3, S⟩ := S.freezeB
  replace h0 := h0.le hM_4
  replace hb_1 := hM_4.2 _ _ hb_1
  refine S_v E rfl (R_assign E rfl) rfl ?_
  clear E a; intro a E
  refine S_v E rfl (R_assign E rfl) rfl ?_
  clear E a; intro a E
  refine WL_nil ?_
  refine T_n ?_
  refine WP_seq ?_
  refine WP_region ?_
  refine S_v E rfl (R_makeFunc E rfl rfl) rfl ?_
  clear E a; intro a E
  refine S_x (X_pu E S rfl rfl rfl (impl_triedsP ⟨rfl, impl_Chunk1P  (by first | assumption | rfl | omega) hb_1 h0 hb_3⟩) (Hp.le.refl _) ?_)
  clear E a S; rintro a _ w M_5 hM_5 ⟨v_6, rfl, hv_6⟩ S E
  replace h0 := h0.le hM_5
  replace hb_1 := hM_5.2 _ _ hb_1
  replace hb_3 := hM_5.2 _ _ hb_3
  refine S_v E rfl (R_extract E rfl rfl) rfl ?_
  clear E a; intro a E
  refine S_v E rfl (R_extract E rfl rfl) rfl ?_
  clear E a; intro a E
  refine S_v E rfl (R_assign E rfl) rfl ?_
  clear E a; intro a E
  refine S_v E rfl (R_assign E rfl) rfl ?_
  clear E a; intro a E
  refine WL_nil ?_
  refine T_n ?_
  refine WP_ret ?_
  exact F_ret2 E Try.results18 rfl rfl ⟨_, rfl, M_5, (hM_2.trans (hM_4.trans hM_5)), ⟨_, (by first | rfl | (simp; done) | (simp_all; done)), hv_6⟩, S⟩
theorem impl_Chunk {M : Hp} {v0 : Value} {l0 : List Int} (h0 : RdI M v0 l0){n1 : Nat} (hb1 : n1 ≤ 1000000) (hb : l0.length ≤ 1000000) :
    Pu Try.prog (.func (.func 18) #[] #[]) M [v0, .int .i64 ((n1 : Nat) : Int)] (fun r M' => ∃ t0, r = .tuple #[t0, .bool (decide (0 < n1))] ∧ RdII M' t0 (chunkR n1 l0)) := by
  rcases Nat.eq_zero_or_pos n1 with h | h
  · have h9 := impl_Chunk_zero (M := M) h0 h
    subst h; exact h9
  · have h9 := impl_Chunk_pos (M := M) h0 h hb1 hb
    rw [chunkR_pos h, decide_eq_true h]; exact h9

set_option maxRecDepth 100000 in
set_option maxHeartbeats 4000000 in
theorem laws_few {M : Hp} {v0 : Value} {l0 : List (List Int)} (h0 : RdII M v0 l0) :
    Pu Try.prog (.func (.func 19) #[] #[]) M [v0] (fun r M' => r = .bool (decide (∀ x ∈ l0, x.length ≤ 300))) := by
  refine Pu_enter Try.func19 rfl Try.ntmps19 rfl Try.call19 ?_
  intro a w M1 H hM1 S E
  replace h0 := h0.le hM1
  have b0 := h0.bound
  refine WP_seq ?_
  refine WP_region ?_
  refine S_v E rfl (R_assign E rfl) rfl ?_
  clear E a; intro a E
  refine WL_nil ?_
  refine T_n ?_
  refine WP_seq ?_
  refine WP_seq ?_
  refine WP_region ?_
  refine S_v E rfl (R_move E rfl) rfl ?_
  clear E a; intro a E
  refine S_v E rfl (R_lenV E rfl T34 h0.len) rfl ?_
  clear E a; intro a E
  refine S_v E rfl (R_move E rfl) rfl ?_
  clear E a; intro a E
  refine WL_nil ?_
  refine T_n ?_
  refine WP_block ?_
  refine WP_loop (γ := Nat) (fun (k : Nat) a w => ∃ (M_1 : Hp), Hp.le M1 M_1 ∧ St w M_1 (H) ∧ Env a 15 [] [(5, v0), (6, .int .i64 (((l0).length : Nat) : Int)), (7, .int .i64 ((k : Nat) : Int))] ∧ (k ≤ (l0).length) ∧ (∀ x ∈ l0.take k, x.length ≤ 300)) (fun k => ((l0).length) - k) 0 ⟨M1, Hp.le.refl _, S, E.keep ⟨rfl, rfl, rfl, trivial⟩, by ((try clear S); (try clear E); first | assumption | omega | rfl | (simp; done) | (simp_all; done) | (simp [List.take_add_one, *]; done) | grind [List.take_add_one]), by ((try clear S); (try clear E); first | assumption | omega | rfl | (simp; done) | (simp_all; done) | (simp [List.take_add_one, *]; done) | grind [List.take_add_one])⟩ ?_
  try clear E
  try clear S
  try clear a
  try clear w
  rintro k a w ⟨M_1, hM_1, S, E, hL0_0, hL0_1⟩
  replace h0 := h0.le hM_1
  refine WP_seq ?_
  refine WP_region ?_
  refine S_v E rfl (R_lss E rfl rfl) rfl ?_
  clear E a; intro a E
  refine WL_nil ?_
  refine T_n ?_
  refine WP_seq ?_
  refine WP_cond E rfl (fun hc_2 => ?_) (fun hc_2 => ?_)
  · replace hc_2 := of_decide_eq_true hc_2
    refine WP_skip ?_
    refine T_n ?_
    refine WP_seq ?_
    refine WP_block ?_
    refine WP_seq ?_
    refine WP_region ?_
    obtain ⟨x_3, hx_3⟩ : ∃ x, (l0)[k]? = some x := ⟨_, List.getElem?_eq_getElem (by first | omega | (simp; done) | (simp; omega) | (simp_all; omega))⟩
    obtain ⟨p_4, u_5, hp_4, qp_4, hu_5⟩ := h0.at hx_3
    have bu_5 := hu_5.bound
    refine S_v E rfl (R_idx E rfl rfl T34 hp_4 rfl) rfl ?_
    clear E a; intro a E
    refine S_v E rfl (R_loadM E rfl Try.isAgg33 S.imm qp_4) rfl ?_
    clear E a; intro a E
    refine S_v E rfl (R_assign E rfl) rfl ?_
    clear E a; intro a E
    refine WL_nil ?_
    refine T_n ?_
    refine WP_seq ?_
    refine WP_region ?_
    refine S_v E rfl (R_move E rfl) rfl ?_
    clear E a; intro a E
    refine S_v E rfl (R_lenV E rfl T33 hu_5.len) rfl ?_
    clear E a; intro a E
    refine S_v E rfl (R_gtr E rfl rfl) rfl ?_
    clear E a; intro a E
    refine WL_nil ?_
    refine T_n ?_
    refine WP_cond E rfl (fun hc_6 => ?_) (fun hc_6 => ?_)
    · replace hc_6 := of_decide_eq_true hc_6
      refine WP_seq ?_
      refine WP_region ?_
      refine S_v E rfl (R_assign E rfl) rfl ?_
      clear E a; intro a E
      refine WL_nil ?_
      refine T_n ?_
      refine WP_ret ?_
      refine B_r ?_
      refine T_r ?_
      refine T_r ?_
      refine B_r ?_
      refine T_r ?_
      exact F_ret1 E Try.results19 rfl ⟨_, rfl, M_1, hM_1, (bF (by ((try clear S); (try clear E); first | assumption | omega | rfl | (simp; done) | (simp_all; done) | (simp [List.take_add_one, *]; done) | grind [List.take_add_one]))), S⟩
    · replace hc_6 := of_decide_eq_false hc_6
      refine WP_skip ?_
      refine B_n ?_
      refine T_n ?_
      refine WP_region ?_
      refine S_v E rfl (R_addx (m := ((k + 1 : Nat) : Int)) E rfl rfl (by omega) (by omega)) rfl ?_
      clear E a; intro a E
      refine S_v E rfl (R_move E rfl) rfl ?_
      clear E a; intro a E
      refine WL_nil ?_
      refine T_n ?_
      exact ⟨k + 1, ⟨M_1, hM_1, S, E.keep ⟨rfl, rfl, rfl, trivial⟩, by ((try clear S); (try clear E); first | assumption | omega | rfl | (simp; done) | (simp_all; done) | (simp [List.take_add_one, *]; done) | grind [List.take_add_one]), by ((try clear S); (try clear E); first | assumption | omega | rfl | (simp; done) | (simp_all; done) | (simp [List.take_add_one, *]; done) | grind [List.take_add_one])⟩, by omega⟩
  · replace hc_2 := of_decide_eq_false hc_2
    refine WP_exit ?_
    refine T_x ?_
    refine T_x ?_
    refine B_x ?_
    refine T_n ?_
    refine WP_seq ?_
    refine WP_region ?_
    refine S_v E rfl (R_assign E rfl) rfl ?_
    clear E a; intro a E
    refine WL_nil ?_
    refine T_n ?_
    refine WP_ret ?_
    exact F_ret1 E Try.results19 rfl ⟨_, rfl, M_1, hM_1, (bT (by ((try clear S); (try clear E); first | assumption | omega | rfl | (simp; done) | (simp_all; done) | (simp [List.take_add_one, *]; done) | grind [List.take_add_one]))), S⟩

set_option maxRecDepth 100000 in
set_option maxHeartbeats 4000000 in
theorem slices_Values1 {M : Hp} {v0 : Value} {l0 : List Int} (h0 : RdI M v0 l0){bx1 : Nat} (hbx1 : M bx1 = some (.cells #[v0] 33)) :
    SeqV Try.prog (.func (.func 110) #[] #[.pointer (some ⟨bx1, 0, none⟩)]) M (RInt) l0 := by
  refine SeqV_enter Try.func110 rfl Try.ntmps110 rfl Try.call110 ?_
  intro y J X a w M1 c H hJM hM1 hY hJ S E
  replace hbx1 := hM1.2 _ _ hbx1
  replace h0 := h0.le hM1
  have b0 := h0.bound
  refine WP_seq ?_
  refine WP_region ?_
  refine S_v E rfl (R_loadM E rfl Try.isAgg33 S.imm (cellM_box hbx1)) rfl ?_
  clear E a; intro a E
  refine S_v E rfl (R_lenV E rfl T33 h0.len) rfl ?_
  clear E a; intro a E
  refine S_v E rfl (R_move E rfl) rfl ?_
  clear E a; intro a E
  refine WL_nil ?_
  refine T_n ?_
  refine WP_block ?_
  refine WP_loop (γ := Nat) (fun (k : Nat) a w => ∃ (M_1 : Hp) (cL0 : HProp), Hp.le M1 M_1 ∧ St w M_1 (mks [] :: cL0 :: H) ∧ Env a 16 (([] : List Nat).map mk) [(0, y), (5, v0), (6, .int .i64 (((l0).length : Nat) : Int)), (7, .int .i64 ((k : Nat) : Int))] ∧ (k ≤ (l0).length) ∧ J (l0.take k) M_1 cL0) (fun k => ((l0).length) - k) 0 ⟨M1, _, Hp.le.refl _, S, E.keep ⟨rfl, rfl, rfl, rfl, trivial⟩, by ((try clear S); (try clear E); first | assumption | omega | rfl | (simp; done) | (simp_all; done) | (simp [List.take_add_one, *]; done) | grind [List.take_add_one]), J_eq hJ (by ((try clear S); (try clear E); first | assumption | omega | rfl | (simp; done) | (simp_all; done) | (simp [List.take_add_one, *]; done) | grind [List.take_add_one]))⟩ ?_
  try clear E
  try clear S
  try clear a
  try clear w
  rintro k a w ⟨M_1, cL0, hM_1, S, E, hL0_0, hJ⟩
  replace hbx1 := hM_1.2 _ _ hbx1
  replace h0 := h0.le hM_1
  refine WP_seq ?_
  refine WP_region ?_
  refine S_v E rfl (R_lss E rfl rfl) rfl ?_
  clear E a; intro a E
  refine WL_nil ?_
  refine T_n ?_
  refine WP_seq ?_
  refine WP_cond E rfl (fun hc_2 => ?_) (fun hc_2 => ?_)
  · replace hc_2 := of_decide_eq_true hc_2
    refine WP_skip ?_
    refine T_n ?_
    refine WP_seq ?_
    refine WP_block ?_
    refine WP_seq ?_
    refine WP_region ?_
    obtain ⟨x_3, hx_3⟩ : ∃ x, (l0)[k]? = some x := ⟨_, List.getElem?_eq_getElem (by first | omega | (simp; done) | (simp; omega) | (simp_all; omega))⟩
    obtain ⟨p_4, hp_4, qp_4⟩ := h0.at hx_3
    refine S_v E rfl (R_idx E rfl rfl T33 hp_4 rfl) rfl ?_
    clear E a; intro a E
    refine S_v E rfl (R_loadM E rfl Try.isAgg3 S.imm qp_4) rfl ?_
    clear E a; intro a E
    refine S_v E rfl (R_assign E rfl) rfl ?_
    clear E a; intro a E
    refine WL_nil ?_
    refine T_n ?_
    refine WP_seq ?_
    refine WP_region ?_
    refine S_v E rfl (R_move E rfl) rfl ?_
    clear E a; intro a E
    refine S_v E rfl (R_move E rfl) rfl ?_
    clear E a; intro a E
    replace S := S.front1
    refine S_x (X_yield (x := x_3) E S rfl rfl rfl hY hM_1 (by (first | (simp; done) | exact List.prefix_refl _ | (rw [pre_take (by assumption)]; exact List.take_prefix _ _) | exact pre_take_lt (by assumption))) rfl hJ ?_)
    clear E a S; rintro a w M_5 c_6 go_7 hM_5 hJ S E
    replace hbx1 := hM_5.2 _ _ hbx1
    replace h0 := h0.le hM_5
    cases go_7
    · replace hJ : X (l0.take k ++ [x_3]) M_5 c_6 := hJ
      refine S_v E rfl (R_not E rfl) rfl ?_
      clear E a; intro a E
      refine WL_nil ?_
      refine T_n ?_
      refine WP_condT E rfl rfl ?_
      refine WP_ret ?_
      refine B_r ?_
      refine T_r ?_
      refine T_r ?_
      refine B_r ?_
      replace S := S.front1
      exact F_retM0 E S Try.results110 (fun w S => ⟨_, rfl, M_5, _, (hM_1.trans hM_5), .inr ⟨(l0.take k ++ [x_3]), (by first | assumption | ((first | (simp; done) | exact List.prefix_refl _ | (rw [pre_take (by assumption)]; exact List.take_prefix _ _) | exact pre_take_lt (by assumption)))), hJ⟩, S⟩)
    · replace hJ : J (l0.take k ++ [x_3]) M_5 c_6 := hJ
      refine S_v E rfl (R_not E rfl) rfl ?_
      clear E a; intro a E
      refine WL_nil ?_
      refine T_n ?_
      refine WP_condF E rfl rfl ?_
      refine WP_skip ?_
      refine B_n ?_
      refine T_n ?_
      refine WP_region ?_
      refine S_v E rfl (R_addx (m := ((k + 1 : Nat) : Int)) E rfl rfl (by omega) (by omega)) rfl ?_
      clear E a; intro a E
      refine S_v E rfl (R_move E rfl) rfl ?_
      clear E a; intro a E
      refine WL_nil ?_
      refine T_n ?_
      replace S := S.front1
      exact ⟨k + 1, ⟨M_5, _, (hM_1.trans hM_5), S, E.keep ⟨rfl, rfl, rfl, rfl, trivial⟩, by ((try clear S); (try clear E); first | assumption | omega | rfl | (simp; done) | (simp_all; done) | (simp [List.take_add_one, *]; done) | grind [List.take_add_one]), J_eq hJ (by ((try clear S); (try clear E); first | assumption | omega | rfl | (simp; done) | (simp_all; done) | (simp [List.take_add_one, *]; done) | grind [List.take_add_one]))⟩, by omega⟩
  · replace hc_2 := of_decide_eq_false hc_2
    refine WP_exit ?_
    refine T_x ?_
    refine T_x ?_
    refine B_x ?_
    refine F_nrm ?_
    replace S := S.front1
    replace S := S.front1
    have hpre : l0.take k = l0 := by ((try clear S); (try clear E); first | rfl | (simp; done) | (simp_all; done) | grind [List.take_add_one])
    rw [hpre] at hJ
    exact F_retM0 E S Try.results110 (fun w S => ⟨_, rfl, M_1, _, hM_1, .inl hJ, S⟩)

set_option maxRecDepth 100000 in
set_option maxHeartbeats 4000000 in
theorem slices_Values {M : Hp} {v0 : Value} {l0 : List Int} (h0 : RdI M v0 l0) :
    Pu Try.prog (.func (.func 72) #[] #[]) M [v0] (fun r M' => SeqV Try.prog r M' RInt l0) := by
  refine Pu_enter Try.func72 rfl Try.ntmps72 rfl Try.call72 ?_
  intro a w M1 H hM1 S E
  replace h0 := h0.le hM1
  have b0 := h0.bound
  refine WP_seq ?_
  refine WP_region ?_
  refine S_x (X_box (cs := #[v0]) E S rfl rfl (cells_one (RdS.one' h0)) ?_)
  clear E a S; rintro a w b_1 E S
  obtain ⟨M_2, hM_2, hb_1, S⟩ := S.freezeB
  replace h0 := h0.le hM_2
  refine S_v E rfl (R_assign E rfl) rfl ?_
  clear E a; intro a E
  refine WL_nil ?_
  refine T_n ?_
  refine WP_seq ?_
  refine WP_region ?_
  refine S_v E rfl (R_makeFunc E rfl rfl) rfl ?_
  clear E a; intro a E
  refine S_v E rfl (R_assign E rfl) rfl ?_
  clear E a; intro a E
  refine WL_nil ?_
  refine T_n ?_
  refine WP_ret ?_
  exact F_ret1 E Try.results72 rfl ⟨_, rfl, M_2, hM_2, (SeqV_eq (slices_Values1 h0 hb_1) (by ((try clear S); (try clear E); first | rfl | (simp; done) | (simp_all; done) | grind [List.take_add_one]))), S⟩

set_option maxRecDepth 100000 in
set_option maxHeartbeats 4000000 in
theorem it_Chunk1 {M : Hp} {v0 : Value} {l0 : List Int} (h0 : SeqV Try.prog v0 M (RInt) l0) {n1 : Nat} (hn : 0 < n1) (hb1 : n1 ≤ 1000000) {bx1 bx2 : Nat} (hbx1 : M bx1 = some (.cells #[v0] 94)) (hbx2 : M bx2 = some (.cells #[.int .i64 (n1 : Int)] 3)) :
    SeqV Try.prog (.func (.func 109) #[] #[.pointer (some ⟨bx1, 0, none⟩), .pointer (some ⟨bx2, 0, none⟩)]) M (RSl 1 RInt) (chL n1 l0) := by
  refine SeqV_enter Try.func109 rfl Try.ntmps109 rfl Try.call109 ?_
  intro y J X a w M1 c H hJM hM1 hY hJ S E
  replace h0 := h0.le hM1
  replace hbx1 := hM1.2 _ _ hbx1
  replace hbx2 := hM1.2 _ _ hbx2
  have hcl0 := ch_lt hn l0
  refine WP_seq ?_
  refine WP_region ?_
  refine S_x (X_box (cs := #[y]) E S rfl rfl (cells_one hY.1) ?_)
  clear E a S; rintro a w b_1 E S
  obtain ⟨M_2, hM_2, hb_1, S⟩ := S.freezeB
  replace h0 := h0.le hM_2
  replace hbx1 := hM_2.2 _ _ hbx1
  replace hbx2 := hM_2.2 _ _ hbx2
  replace hJ := hJM _ _ _ _ hM_2 hJ
  refine WL_nil ?_
  refine T_n ?_
  refine WP_seq ?_
  refine WP_region ?_
  refine S_x (X_alloc (cs := #[.slice none 0 0]) E S rfl Try.zeroValue33 rfl ?_)
  clear E a S; rintro a w b_3 E S
  refine WL_nil ?_
  refine T_n ?_
  refine WP_seq ?_
  refine WP_seq ?_
  refine WP_region ?_
  refine S_v E rfl (R_loadM E rfl Try.isAgg94 S.imm (cellM_box hbx1)) rfl ?_
  clear E a; intro a E
  refine WL_nil ?_
  refine T_n ?_
  refine WP_block ?_
  replace S := (S.ownNil (e := 3) (sz := 1)).made0
  replace S := S.front3
  replace S := S.front1
  replace S := S.front2
  replace E := E.keep (l' := [(2, .pointer (some ⟨bx2, 0, none⟩)), (3, .pointer (some ⟨b_1, 0, none⟩)), (4, .pointer (some ⟨b_3, 0, none⟩)), (6, v0)]) ⟨rfl, rfl, rfl, rfl, trivial⟩
  replace S := S.front2
  replace S := S.front2
  replace S := S.re1 (l' := (chS n1 (([] : List Int))).2) (by (first | rfl | (rw [ch_full (by omega)]; done) | (rw [ch_part (by omega)]; done)))
  replace S := S.front2
  have S0 := S; clear S; have S := St.pack [blk b_3 (.cells #[(.slice none 0 0)] 33), OwnI 3 (.slice none 0 0) ((chS n1 (([] : List Int))).2), c] S0; clear S0
  refine WP_range (RV := RInt) (l := l0) (fun pre M c => ∃ (u4 : Value) (c0 : HProp), c = bigs [blk b_3 (.cells #[u4] 33), OwnI 3 u4 ((chS n1 (pre)).2), c0] ∧ (J ((chS n1 (pre)).1) M c0) ∧ ((chS n1 (pre)).2 = [] → u4 = .slice none 0 0)) (fun cd pre M c => cd = .ret ∧ ∃ z, z <+: (chL n1 l0) ∧ X z M c) E S rfl h0 (Hp.le.refl _) (fun _ _ _ h => by rw [h]; rfl) (by decide) (by rintro _ M M' c hM ⟨u4, c0, rfl, f0, f1⟩; exact ⟨_, _, rfl, hJM _ _ _ _ hM f0, f1⟩) ⟨_, _, rfl, J_eq hJ (by rfl), (by (intro _; rfl))⟩ ?_ ?_ ?_
  clear E S
  · rintro lb_6 rec_7 pre xa _ a w M_5 _ G hM_5 hp_8 rfl ⟨u4, c0, rfl, f0, f1⟩ E S
    replace E : Env a 29 [] [(7, .int .i64 xa), (2, .pointer (some ⟨bx2, 0, none⟩)), (3, .pointer (some ⟨b_1, 0, none⟩)), (4, .pointer (some ⟨b_3, 0, none⟩)), (6, v0)] := E
    replace S := S.swap.unpack3
    have hq0 := prefix_lt hp_8
    replace h0 := h0.le hM_5
    replace hbx1 := hM_5.2 _ _ hbx1
    replace hbx2 := hM_5.2 _ _ hbx2
    replace hb_1 := hM_5.2 _ _ hb_1
    have hcl := ch_lt hn pre
    refine WP_region ?_
    refine S_v E rfl (R_assign E rfl) rfl ?_
    clear E a; intro a E
    refine WL_nil ?_
    refine T_n ?_
    replace S := S.front3
    refine rb S ?_
    clear S; intro w S
    refine WP_block ?_
    refine WP_seq ?_
    refine WP_seq ?_
    refine WP_region ?_
    refine S_v E rfl (R_load E rfl (Try.isAgg33 _) (cell_blk (S.mem (.tail _ (.head _))))) rfl ?_
    clear E a; intro a E
    replace S := S.front2
    refine S_v E rfl (R_eqlN E rfl rfl T33.und (nilV S (by assumption))) rfl ?_
    clear E a; intro a E
    refine WL_nil ?_
    refine T_n ?_
    refine WP_cond E rfl (fun hc_10 => ?_) (fun hc_10 => ?_)
    · replace hc_10 := of_decide_eq_true hc_10
      refine WP_region ?_
      refine S_v E rfl (R_loadM E rfl Try.isAgg3 S.imm (cellM_box hbx2)) rfl ?_
      clear E a; intro a E
      refine S_x (X_make0 (k := n1) E S rfl rfl rfl T33 rfl (by omega) (by omega) (by omega) ?_)
      clear E a S; rintro a w v_11 E S
      replace S := S.made0
      replace S := S.re1 (l' := (chS n1 pre).2) (by (symm; assumption))
      have ho_12 := S.oneI
      replace S := S.front3
      refine S_x0 (X_store E S rfl rfl (Try.sizeOf33 _) ho_12 ?_)
      clear E a S; rintro a w E S
      refine WL_nil ?_
      refine T_n ?_
      refine WP_seq ?_
      refine WP_region ?_
      refine S_v E rfl (R_load E rfl (Try.isAgg33 _) (cell_blk (S.mem (.head _)))) rfl ?_
      clear E a; intro a E
      refine S_v E rfl (R_move E rfl) rfl ?_
      clear E a; intro a E
      refine S_x (X_buildI (ys := [xa]) E S rfl T33 rfl rfl rfl ?_)
      clear E a S; rintro a w v_13 E S
      replace S := S.front2
      replace S := S.front1
      refine S_x (X_appendB (xs := (chS n1 pre).2) (ys := [xa]) E S rfl rfl rfl T33 (by (first | (simp only [List.length_append, List.length_cons, List.length_nil]; omega) | omega)) ?_)
      clear E a S; rintro a w v_14 E S
      have ho_15 := S.oneI
      replace S := S.front1
      refine S_x0 (X_store E S rfl rfl (Try.sizeOf33 _) ho_15 ?_)
      clear E a S; rintro a w E S
      refine WL_nil ?_
      refine T_n ?_
      refine WP_seq ?_
      refine WP_region ?_
      refine S_v E rfl (R_load E rfl (Try.isAgg33 _) (cell_blk (S.mem (.head _)))) rfl ?_
      clear E a; intro a E
      replace S := S.front1
      refine S_v E rfl (R_lenV E rfl T33 S.lenC) rfl ?_
      clear E a; intro a E
      refine S_v E rfl (R_loadM E rfl Try.isAgg3 S.imm (cellM_box hbx2)) rfl ?_
      clear E a; intro a E
      refine S_v E rfl (R_eql E rfl rfl) rfl ?_
      clear E a; intro a E
      refine WL_nil ?_
      refine T_n ?_
      refine WP_cond E rfl (fun hc_16 => ?_) (fun hc_16 => ?_)
      · replace hc_16 := of_decide_eq_true hc_16
        refine WP_seq ?_
        refine WP_seq ?_
        refine WP_region ?_
        refine S_v E rfl (R_loadM E rfl Try.isAgg122 S.imm (cellM_box hb_1)) rfl ?_
        clear E a; intro a E
        refine S_v E rfl (R_load E rfl (Try.isAgg33 _) (cell_blk (S.mem (.tail _ (.head _))))) rfl ?_
        clear E a; intro a E
        have S0 := S; clear S
        obtain ⟨M_17, hM_17, hz_18, S⟩ := S0.freezeI (by (first | (simp only [List.length_append, List.length_cons, List.length_nil]; omega) | omega))
        clear S0
        replace h0 := h0.le hM_17
        replace hbx1 := hM_17.2 _ _ hbx1
        replace hbx2 := hM_17.2 _ _ hbx2
        replace hb_1 := hM_17.2 _ _ hb_1
        replace f0 := hJM _ _ _ _ hM_17 f0
        replace S := S.front3
        refine S_x (X_yield (x := ((chS n1 pre).2) ++ [xa]) E S rfl rfl rfl hY (hM_2.trans (hM_5.trans hM_17)) (by first | exact ch_tell (by assumption) (by omega) | exact List.prefix_refl _ | (rw [chL_some (by first | assumption | (intro h9; simp_all; done))]; exact List.prefix_refl _)) ⟨_, rfl, hz_18⟩ f0 ?_)
        clear E a S; rintro a w M_19 c_20 go_21 hM_19 f0 S E
        replace h0 := h0.le hM_19
        replace hbx1 := hM_19.2 _ _ hbx1
        replace hbx2 := hM_19.2 _ _ hbx2
        replace hb_1 := hM_19.2 _ _ hb_1
        replace hz_18 := hz_18.le hM_19
        cases go_21
        · replace f0 : X ((chS n1 (pre)).1 ++ [((chS n1 pre).2) ++ [xa]]) M_19 c_20 := f0
          refine S_v E rfl (R_not E rfl) rfl ?_
          clear E a; intro a E
          refine WL_nil ?_
          refine T_n ?_
          refine WP_condT E rfl rfl ?_
          refine WP_ret ?_
          refine T_r ?_
          refine B_r ?_
          replace S := S.front1
          replace S := S.drop
          replace S := S.front1
          replace S := S.drop
          replace S := S.front1
          exact ⟨M_19, _, (hM_17.trans hM_19), ⟨rfl, _, (by first | assumption | (first | exact ch_tell (by assumption) (by omega) | exact List.prefix_refl _ | (rw [chL_some (by first | assumption | (intro h9; simp_all; done))]; exact List.prefix_refl _)) | (first | exact ch_tell (by assumption) (by omega) | exact List.prefix_refl _ | (rw [chL_some (by first | assumption | (intro h9; simp_all; done))]; exact List.prefix_refl _) | exact ch_pre (by assumption))), f0⟩, S⟩
        · replace f0 : J ((chS n1 (pre)).1 ++ [((chS n1 pre).2) ++ [xa]]) M_19 c_20 := f0
          refine S_v E rfl (R_not E rfl) rfl ?_
          clear E a; intro a E
          refine WL_nil ?_
          refine T_n ?_
          refine WP_condF E rfl rfl ?_
          refine WP_skip ?_
          refine T_n ?_
          refine WP_region ?_
          replace S := S.front1
          refine S_x0 (X_store E S rfl rfl (Try.sizeOf33 _) rfl ?_)
          clear E a S; rintro a w E S
          refine WL_nil ?_
          refine B_n ?_
          replace S := (S.ownNil (e := 3) (sz := 1)).made0
          replace S := S.front3
          replace S := S.drop
          replace S := S.front2
          replace S := S.front1
          replace S := S.front2
          replace S := S.front2
          replace S := S.front2
          replace S := S.re1 (l' := (chS n1 ((pre ++ [xa]))).2) (by (first | rfl | (rw [ch_full (by omega)]; done) | (rw [ch_part (by omega)]; done)))
          replace S := S.front2
          have S0 := S; clear S; have S := (St.pack [blk b_3 (.cells #[(.slice none 0 0)] 33), OwnI 3 (.slice none 0 0) ((chS n1 ((pre ++ [xa]))).2), c_20] S0).swap; clear S0
          exact ⟨M_19, _, (hM_17.trans hM_19), ⟨_, _, rfl, J_eq f0 (by (first | rfl | (rw [ch_full (by omega)]; done) | (rw [ch_part (by omega)]; done))), (by (first | (intro _; rfl) | (rw [ch_part (by omega)]; intro h9; simp at h9; done)))⟩, S⟩
      · replace hc_16 := of_decide_eq_false hc_16
        refine WP_skip ?_
        refine B_n ?_
        replace S := S.front2
        replace S := S.drop
        replace S := S.front3
        replace S := S.front1
        replace S := S.front2
        replace S := S.front2
        replace S := S.front2
        replace S := S.re1 (l' := (chS n1 ((pre ++ [xa]))).2) (by (first | rfl | (rw [ch_full (by omega)]; done) | (rw [ch_part (by omega)]; done)))
        replace S := S.front2
        have S0 := S; clear S; have S := (St.pack [blk b_3 (.cells #[v_14] 33), OwnI 3 v_14 ((chS n1 ((pre ++ [xa]))).2), c0] S0).swap; clear S0
        exact ⟨M_5, _, (Hp.le.refl _), ⟨_, _, rfl, J_eq f0 (by (first | rfl | (rw [ch_full (by omega)]; done) | (rw [ch_part (by omega)]; done))), (by (first | (intro _; rfl) | (rw [ch_part (by omega)]; intro h9; simp at h9; done)))⟩, S⟩
    · replace hc_10 := of_decide_eq_false hc_10
      refine WP_skip ?_
      refine T_n ?_
      refine WP_seq ?_
      refine WP_region ?_
      refine S_v E rfl (R_load E rfl (Try.isAgg33 _) (cell_blk (S.mem (.tail _ (.tail _ (.head _)))))) rfl ?_
      clear E a; intro a E
      refine S_v E rfl (R_move E rfl) rfl ?_
      clear E a; intro a E
      refine S_x (X_buildI (ys := [xa]) E S rfl T33 rfl rfl rfl ?_)
      clear E a S; rintro a w v_23 E S
      replace S := S.front1
      replace S := S.front1
      refine S_x (X_appendB (xs := (chS n1 (pre)).2) (ys := [xa]) E S rfl rfl rfl T33 (by (first | (simp only [List.length_append, List.length_cons, List.length_nil]; omega) | omega)) ?_)
      clear E a S; rintro a w v_24 E S
      have ho_25 := S.oneI
      replace S := S.front2
      refine S_x0 (X_store E S rfl rfl (Try.sizeOf33 _) ho_25 ?_)
      clear E a S; rintro a w E S
      refine WL_nil ?_
      refine T_n ?_
      refine WP_seq ?_
      refine WP_region ?_
      refine S_v E rfl (R_load E rfl (Try.isAgg33 _) (cell_blk (S.mem (.head _)))) rfl ?_
      clear E a; intro a E
      replace S := S.front1
      refine S_v E rfl (R_lenV E rfl T33 S.lenC) rfl ?_
      clear E a; intro a E
      refine S_v E rfl (R_loadM E rfl Try.isAgg3 S.imm (cellM_box hbx2)) rfl ?_
      clear E a; intro a E
      refine S_v E rfl (R_eql E rfl rfl) rfl ?_
      clear E a; intro a E
      refine WL_nil ?_
      refine T_n ?_
      refine WP_cond E rfl (fun hc_26 => ?_) (fun hc_26 => ?_)
      · replace hc_26 := of_decide_eq_true hc_26
        refine WP_seq ?_
        refine WP_seq ?_
        refine WP_region ?_
        refine S_v E rfl (R_loadM E rfl Try.isAgg122 S.imm (cellM_box hb_1)) rfl ?_
        clear E a; intro a E
        refine S_v E rfl (R_load E rfl (Try.isAgg33 _) (cell_blk (S.mem (.tail _ (.head _))))) rfl ?_
        clear E a; intro a E
        have S0 := S; clear S
        obtain ⟨M_27, hM_27, hz_28, S⟩ := S0.freezeI (by (first | (simp only [List.length_append, List.length_cons, List.length_nil]; omega) | omega))
        clear S0
        replace h0 := h0.le hM_27
        replace hbx1 := hM_27.2 _ _ hbx1
        replace hbx2 := hM_27.2 _ _ hbx2
        replace hb_1 := hM_27.2 _ _ hb_1
        replace f0 := hJM _ _ _ _ hM_27 f0
        replace S := S.front2
        refine S_x (X_yield (x := ((chS n1 (pre)).2) ++ [xa]) E S rfl rfl rfl hY (hM_2.trans (hM_5.trans hM_27)) (by first | exact ch_tell (by assumption) (by omega) | exact List.prefix_refl _ | (rw [chL_some (by first | assumption | (intro h9; simp_all; done))]; exact List.prefix_refl _)) ⟨_, rfl, hz_28⟩ f0 ?_)
        clear E a S; rintro a w M_29 c_30 go_31 hM_29 f0 S E
        replace h0 := h0.le hM_29
        replace hbx1 := hM_29.2 _ _ hbx1
        replace hbx2 := hM_29.2 _ _ hbx2
        replace hb_1 := hM_29.2 _ _ hb_1
        replace hz_28 := hz_28.le hM_29
        cases go_31
        · replace f0 : X ((chS n1 (pre)).1 ++ [((chS n1 (pre)).2) ++ [xa]]) M_29 c_30 := f0
          refine S_v E rfl (R_not E rfl) rfl ?_
          clear E a; intro a E
          refine WL_nil ?_
          refine T_n ?_
          refine WP_condT E rfl rfl ?_
          refine WP_ret ?_
          refine T_r ?_
          refine B_r ?_
          replace S := S.front1
          replace S := S.drop
          replace S := S.front1
          exact ⟨M_29, _, (hM_27.trans hM_29), ⟨rfl, _, (by first | assumption | (first | exact ch_tell (by assumption) (by omega) | exact List.prefix_refl _ | (rw [chL_some (by first | assumption | (intro h9; simp_all; done))]; exact List.prefix_refl _)) | (first | exact ch_tell (by assumption) (by omega) | exact List.prefix_refl _ | (rw [chL_some (by first | assumption | (intro h9; simp_all; done))]; exact List.prefix_refl _) | exact ch_pre (by assumption))), f0⟩, S⟩
        · replace f0 : J ((chS n1 (pre)).1 ++ [((chS n1 (pre)).2) ++ [xa]]) M_29 c_30 := f0
          refine S_v E rfl (R_not E rfl) rfl ?_
          clear E a; intro a E
          refine WL_nil ?_
          refine T_n ?_
          refine WP_condF E rfl rfl ?_
          refine WP_skip ?_
          refine T_n ?_
          refine WP_region ?_
          replace S := S.front1
          refine S_x0 (X_store E S rfl rfl (Try.sizeOf33 _) rfl ?_)
          clear E a S; rintro a w E S
          refine WL_nil ?_
          refine B_n ?_
          replace S := (S.ownNil (e := 3) (sz := 1)).made0
          replace S := S.front2
          replace S := S.front1
          replace S := S.front2
          replace S := S.front2
          replace S := S.front2
          replace S := S.re1 (l' := (chS n1 ((pre ++ [xa]))).2) (by (first | rfl | (rw [ch_full (by omega)]; done) | (rw [ch_part (by omega)]; done)))
          replace S := S.front2
          have S0 := S; clear S; have S := (St.pack [blk b_3 (.cells #[(.slice none 0 0)] 33), OwnI 3 (.slice none 0 0) ((chS n1 ((pre ++ [xa]))).2), c_30] S0).swap; clear S0
          exact ⟨M_29, _, (hM_27.trans hM_29), ⟨_, _, rfl, J_eq f0 (by (first | rfl | (rw [ch_full (by omega)]; done) | (rw [ch_part (by omega)]; done))), (by (first | (intro _; rfl) | (rw [ch_part (by omega)]; intro h9; simp at h9; done)))⟩, S⟩
      · replace hc_26 := of_decide_eq_false hc_26
        refine WP_skip ?_
        refine B_n ?_
        replace S := S.front3
        replace S := S.front1
        replace S := S.front2
        replace S := S.front2
        replace S := S.front2
        replace S := S.re1 (l' := (chS n1 ((pre ++ [xa]))).2) (by (first | rfl | (rw [ch_full (by omega)]; done) | (rw [ch_part (by omega)]; done)))
        replace S := S.front2
        have S0 := S; clear S; have S := (St.pack [blk b_3 (.cells #[v_24] 33), OwnI 3 v_24 ((chS n1 ((pre ++ [xa]))).2), c0] S0).swap; clear S0
        exact ⟨M_5, _, (Hp.le.refl _), ⟨_, _, rfl, J_eq f0 (by (first | rfl | (rw [ch_full (by omega)]; done) | (rw [ch_part (by omega)]; done))), (by (first | (intro _; rfl) | (rw [ch_part (by omega)]; intro h9; simp at h9; done)))⟩, S⟩
  · rintro a w M_33 _ D_34 hM_33 ⟨u4, c0, rfl, f0, f1⟩ S E
    replace S := S.unpack3
    replace h0 := h0.le hM_33
    replace hbx1 := hM_33.2 _ _ hbx1
    replace hbx2 := hM_33.2 _ _ hbx2
    replace hb_1 := hM_33.2 _ _ hb_1
    refine B_n ?_
    refine T_n ?_
    refine WP_seq ?_
    refine WP_region ?_
    refine S_v E rfl (R_load E rfl (Try.isAgg33 _) (cell_blk (S.mem (.head _)))) rfl ?_
    clear E a; intro a E
    replace S := S.front1
    refine S_v E rfl (R_neqN E rfl rfl T33.und (nilV S (by assumption))) rfl ?_
    clear E a; intro a E
    refine WL_nil ?_
    refine T_n ?_
    refine WP_cond E rfl (fun hc_35 => ?_) (fun hc_35 => ?_)
    · refine WP_region ?_
      refine S_v E rfl (R_loadM E rfl Try.isAgg122 S.imm (cellM_box hb_1)) rfl ?_
      clear E a; intro a E
      refine S_v E rfl (R_load E rfl (Try.isAgg33 _) (cell_blk (S.mem (.tail _ (.head _))))) rfl ?_
      clear E a; intro a E
      have S0 := S; clear S
      obtain ⟨M_36, hM_36, hz_37, S⟩ := S0.freezeI (by (first | (simp only [List.length_append, List.length_cons, List.length_nil]; omega) | omega))
      clear S0
      replace h0 := h0.le hM_36
      replace hbx1 := hM_36.2 _ _ hbx1
      replace hbx2 := hM_36.2 _ _ hbx2
      replace hb_1 := hM_36.2 _ _ hb_1
      replace f0 := hJM _ _ _ _ hM_36 f0
      replace S := S.front1
      refine S_x (X_yield (x := (chS n1 (l0)).2) E S rfl rfl rfl hY (hM_2.trans (hM_33.trans hM_36)) (by first | exact ch_tell (by assumption) (by omega) | exact List.prefix_refl _ | (rw [chL_some (by first | assumption | (intro h9; simp_all; done))]; exact List.prefix_refl _)) ⟨_, rfl, hz_37⟩ f0 ?_)
      clear E a S; rintro a w M_38 c_39 go_40 hM_38 f0 S E
      replace h0 := h0.le hM_38
      replace hbx1 := hM_38.2 _ _ hbx1
      replace hbx2 := hM_38.2 _ _ hbx2
      replace hb_1 := hM_38.2 _ _ hb_1
      replace hz_37 := hz_37.le hM_38
      cases go_40
      · replace f0 : X ((chS n1 (l0)).1 ++ [(chS n1 (l0)).2]) M_38 c_39 := f0
        refine WL_nil ?_
        refine F_nrm ?_
        replace S := S.front1
        replace S := S.drop
        replace S := S.front1
        exact F_retM0 E S Try.results109 (fun w S => ⟨_, rfl, M_38, _, (hM_2.trans (hM_33.trans (hM_36.trans hM_38))), .inr ⟨((chS n1 (l0)).1 ++ [(chS n1 (l0)).2]), (by first | assumption | (first | exact ch_tell (by assumption) (by omega) | exact List.prefix_refl _ | (rw [chL_some (by first | assumption | (intro h9; simp_all; done))]; exact List.prefix_refl _) | exact ch_pre (by assumption))), f0⟩, S⟩)
      · replace f0 : J ((chS n1 (l0)).1 ++ [(chS n1 (l0)).2]) M_38 c_39 := f0
        refine WL_nil ?_
        refine F_nrm ?_
        replace S := S.front1
        replace S := S.drop
        replace S := S.front1
        have hpre : ((chS n1 (l0)).1 ++ [(chS n1 (l0)).2]) = chL n1 l0 := by (first | exact (chL_some (by first | assumption | (intro h9; simp_all; done))).symm | exact (chL_none (by first | assumption | (simp_all; done))).symm)
        rw [hpre] at f0
        exact F_retM0 E S Try.results109 (fun w S => ⟨_, rfl, M_38, _, (hM_2.trans (hM_33.trans (hM_36.trans hM_38))), .inl f0, S⟩)
    · refine WP_skip ?_
      refine F_nrm ?_
      replace S := S.drop
      replace S := S.drop
      replace S := S.front1
      have hpre : (chS n1 (l0)).1 = chL n1 l0 := by (first | exact (chL_some (by first | assumption | (intro h9; simp_all; done))).symm | exact (chL_none (by first | assumption | (simp_all; done))).symm)
      rw [hpre] at f0
      exact F_retM0 E S Try.results109 (fun w S => ⟨_, rfl, M_33, _, (hM_2.trans hM_33), .inl f0, S⟩)
  · rintro a w M_41 c_ D_42 p_43 _ hM_41 hp_44 ⟨rfl, z_, hz_, f0⟩ S E
    replace h0 := h0.le hM_41
    replace hbx1 := hM_41.2 _ _ hbx1
    replace hbx2 := hM_41.2 _ _ hbx2
    replace hb_1 := hM_41.2 _ _ hb_1
    refine WP_ret ?_
    refine B_r ?_
    refine T_r ?_
    replace S := S.front1
    exact F_retM0 E S Try.results109 (fun w S => ⟨_, rfl, M_41, _, (hM_2.trans hM_41), .inr ⟨z_, (by first | assumption | (first | exact ch_tell (by assumption) (by omega) | exact List.prefix_refl _ | (rw [chL_some (by first | assumption | (intro h9; simp_all; done))]; exact List.prefix_refl _) | exact ch_pre (by assumption))), f0⟩, S⟩)

set_option maxRecDepth 100000 in
set_option maxHeartbeats 4000000 in
theorem it_Chunk {M : Hp} {v0 : Value} {l0 : List Int} (h0 : SeqV Try.prog v0 M (RInt) l0) {n1 : Nat} (hn : 0 < n1) (hb1 : n1 ≤ 1000000) :
    Pu Try.prog (.func (.func 71) #[] #[]) M [v0, .int .i64 ((n1 : Nat) : Int)] (fun r M' => SeqV Try.prog r M' (RSl 1 RInt) (chL n1 l0)) := by
  refine Pu_enter Try.func71 rfl Try.ntmps71 rfl Try.call71 ?_
  intro a w M1 H hM1 S E
  replace h0 := h0.le hM1
  refine WP_seq ?_
  refine WP_region ?_
  refine S_x (X_box (cs := #[v0]) E S rfl rfl (cells_one h0.1) ?_)
  clear E a S; rintro a w b_1 E S
  obtain ⟨M_2, hM_2, hb_1, S⟩ := S.freezeB
  replace h0 := h0.le hM_2
  refine S_x (X_box (cs := #[.int .i64 ((n1 : Nat) : Int)]) E S rfl rfl rfl ?_)
  clear E a S; rintro a w b_3 E S
  obtain ⟨M_4, hM_4, hb_3, S⟩ := S.freezeB
  replace h0 := h0.le hM_4
  replace hb_1 := hM_4.2 _ _ hb_1
  refine S_v E rfl (R_assign E rfl) rfl ?_
  clear E a; intro a E
  refine WL_nil ?_
  refine T_n ?_
  refine WP_seq ?_
  refine WP_seq ?_
  refine WP_region ?_
  refine S_v E rfl (R_loadM E rfl Try.isAgg3 S.imm (cellM_box hb_3)) rfl ?_
  clear E a; intro a E
  refine S_v E rfl (R_leq E rfl rfl) rfl ?_
  clear E a; intro a E
  refine WL_nil ?_
  refine T_n ?_
  have hc_5 : (decide (((n1 : Nat) : Int) ≤ 0)) = false := by (apply decide_eq_false; omega)
  refine WP_condF E rfl hc_5 ?_
  refine WP_skip ?_
  refine T_n ?_
  refine WP_seq ?_
  refine WP_region ?_
  refine S_v E rfl (R_makeFunc E rfl rfl) rfl ?_
  clear E a; intro a E
  refine S_v E rfl (R_assign E rfl) rfl ?_
  clear E a; intro a E
  refine WL_nil ?_
  refine T_n ?_
  refine WP_ret ?_
  exact F_ret1 E Try.results71 rfl ⟨_, rfl, M_4, (hM_2.trans hM_4), (SeqV_eq (it_Chunk1 (n1 := n1) h0 (by omega) (by omega) hb_1 hb_3) (by ((try clear S); (try clear E); first | rfl | (simp; done) | (simp_all; done) | grind [List.take_add_one]))), S⟩

set_option maxRecDepth 100000 in
set_option maxHeartbeats 4000000 in
theorem slices_AppendSeqL {M : Hp} {v1 : Value} {l1 : List (List Int)} (h1 : SeqV Try.prog v1 M (RSl 1 RInt) l1) (hb : l1.length ≤ 1000000) :
    Pu Try.prog (.func (.func 108) #[] #[]) M [.slice none 0 0, v1] (fun r M' => RdII M' r l1) := by
  refine Pu_enter Try.func108 rfl Try.ntmps108 rfl Try.call108 ?_
  intro a w M1 H hM1 S E
  replace h1 := h1.le hM1
  replace S : St w M1 (mks [] :: _) := S.empty
  replace E : Env a 13 (([] : List Nat).map mk) _ := E
  refine WP_seq ?_
  refine WP_region ?_
  refine S_x (X_box (cs := #[.slice none 0 0]) E S rfl rfl rfl ?_)
  clear E a S; rintro a w b_1 E S
  refine S_v E rfl (R_assign E rfl) rfl ?_
  clear E a; intro a E
  refine WL_nil ?_
  refine T_n ?_
  refine WP_seq ?_
  refine WP_seq ?_
  refine WP_region ?_
  refine S_v E rfl (R_move E rfl) rfl ?_
  clear E a; intro a E
  refine WL_nil ?_
  refine T_n ?_
  refine WP_block ?_
  replace S : St w M1 (OwnC 33 1 (.slice none 0 0) ([] : List (List Int)).length [] :: _) := S.ownNil
  have hr_3 : RowsR (RSl 1 RInt) 1 M1 ([] : List (List Int)) [] := RowsR.nil
  replace S := S.front1
  replace E := E.keep (l' := [(2, .pointer (some ⟨b_1, 0, none⟩)), (6, v1)]) ⟨rfl, rfl, trivial⟩
  replace S := S.front1
  have hre : ([] : List (List Int)) = [] := by first | rfl | (simp; done)
  replace S := S.reR hre
  replace hr_3 := hr_3.eq hre
  clear hre
  replace S := S.front1
  have S0 := S; clear S; have S := St.pack [blk b_1 (.cells #[(.slice none 0 0)] 34), OwnC 33 1 (.slice none 0 0) [].length []] S0; clear S0
  refine WP_range (RV := RSl 1 RInt) (l := l1) (fun pre M c => ∃ (u2 : Value) (xs2 : List Value), c = bigs [blk b_1 (.cells #[u2] 34), OwnC 33 1 u2 pre.length xs2] ∧ (RowsR (RSl 1 RInt) 1 M pre xs2)) (fun _ _ _ _ => False) E S rfl h1 (Hp.le.refl _) (fun _ _ _ h => by obtain ⟨_, h, _⟩ := h; rw [h]; rfl) (by decide) (by rintro _ M M' c hM ⟨u2, xs2, rfl, fr2⟩; exact ⟨_, _, rfl, fr2.le (RSl_mono RInt_mono) hM⟩) ⟨_, _, rfl, hr_3⟩ ?_ ?_ ?_
  clear E S
  · rintro lb_5 rec_6 pre xa _ a w M_4 _ G hM_4 hp_7 ⟨vxa, rfl, hv_8⟩ ⟨u2, xs2, rfl, fr2⟩ E S
    replace E : Env a 13 [] [(7, vxa), (2, .pointer (some ⟨b_1, 0, none⟩)), (6, v1)] := E
    replace hv_8 : RdI M_4 vxa xa := hv_8
    replace S := S.swap.unpack2
    have hq0 := prefix_lt hp_7
    replace h1 := h1.le hM_4
    replace hr_3 := hr_3.le (RSl_mono RInt_mono) hM_4
    have hpl := hp_7.length_le; simp at hpl
    refine WP_region ?_
    refine S_v E rfl (R_assign E rfl) rfl ?_
    clear E a; intro a E
    refine WL_nil ?_
    refine T_n ?_
    replace S := S.front2
    refine rb S ?_
    clear S; intro w S
    refine WP_block ?_
    refine WP_region ?_
    refine S_v E rfl (R_load E rfl (Try.isAgg34 _) (cell_blk (S.mem (.tail _ (.head _))))) rfl ?_
    clear E a; intro a E
    refine S_v E rfl (R_move E rfl) rfl ?_
    clear E a; intro a E
    refine S_x (X_buildM (R := RSl 1 RInt) (vs := [vxa]) (xs := [xa]) (RSl_mono RInt_mono) E S rfl T34 rfl rfl rfl (by intro u hu; simp only [List.mem_cons, List.not_mem_nil, or_false] at hu; rcases hu with rfl <;> first | exact RdI.one hv_8 | rfl) rfl (rowsC (R := RSl 1 RInt) (RdI.row hv_8) rowsN) ?_)
    clear E a S; rintro a v_9 w M_10 hM_10 hv_9 S E
    replace hv_9 : RdII M_10 v_9 [xa] := hv_9
    replace h1 := h1.le hM_10
    replace hr_3 := hr_3.le (RSl_mono RInt_mono) hM_10
    replace fr2 := fr2.le (RSl_mono RInt_mono) hM_10
    replace hv_8 := hv_8.le hM_10
    replace S := S.front2
    refine S_x (X_appendR (R := (RSl 1 RInt)) (zs := pre) (ys := [xa]) E S fr2 rfl rfl rfl T34 hv_9 one_RSl (by (simp only [List.length_cons, List.length_nil]; omega)) (by (simp only [List.length_cons, List.length_nil]; omega)) ?_)
    clear E a S; rintro a w v_11 xs_12 E hr_13 S
    have ho_14 := S.oneC
    replace S := S.front2
    refine S_x0 (X_store E S rfl rfl (Try.sizeOf34 _) ho_14 ?_)
    clear E a S; rintro a w E S
    refine WL_nil ?_
    refine B_n ?_
    replace S := S.front1
    replace S := S.front1
    replace S := S.front1
    replace S := S.front1
    have S0 := S; clear S; have S := (St.pack [blk b_1 (.cells #[v_11] 34), OwnC 33 1 v_11 (pre ++ [xa]).length xs_12] S0).swap; clear S0
    exact ⟨M_10, _, hM_10, ⟨_, _, rfl, hr_13⟩, S⟩
  · rintro a w M_15 _ D_16 hM_15 ⟨u2, xs2, rfl, fr2⟩ S E
    replace S := S.unpack2
    replace h1 := h1.le hM_15
    replace hr_3 := hr_3.le (RSl_mono RInt_mono) hM_15
    refine B_n ?_
    refine T_n ?_
    refine WP_seq ?_
    refine WP_region ?_
    refine S_v E rfl (R_load E rfl (Try.isAgg34 _) (cell_blk (S.mem (.head _)))) rfl ?_
    clear E a; intro a E
    refine S_v E rfl (R_assign E rfl) rfl ?_
    clear E a; intro a E
    refine WL_nil ?_
    refine T_n ?_
    refine WP_ret ?_
    replace S := S.front1
    have S0 := S; clear S
    obtain ⟨M_17, hM_17, hz_18, S⟩ := S0.freezeR fr2 (RSl_mono RInt_mono) (by (first | omega | (simp; omega) | (simp; done) | (simp_all; omega) | grind))
    clear S0
    replace hz_18 : RdII M_17 u2 l1 := hz_18
    replace h1 := h1.le hM_17
    replace hr_3 := hr_3.le (RSl_mono RInt_mono) hM_17
    replace S := S.drop
    exact F_retM1 E S Try.results108 rfl (fun w S => ⟨_, rfl, M_17, (hM_15.trans hM_17), hz_18, S⟩)
  · rintro _ _ _ _ _ _ _ _ _ hX; exact hX.elim

set_option maxRecDepth 100000 in
set_option maxHeartbeats 4000000 in
theorem slices_CollectL {M : Hp} {v0 : Value} {l0 : List (List Int)} (h0 : SeqV Try.prog v0 M (RSl 1 RInt) l0) (hb : l0.length ≤ 1000000) :
    Pu Try.prog (.func (.func 70) #[] #[]) M [v0] (fun r M' => RdII M' r l0) := by
  refine Pu_enter Try.func70 rfl Try.ntmps70 rfl Try.call70 ?_
  intro a w M1 H hM1 S E
  replace h0 := h0.le hM1
  refine WP_seq ?_
  refine WP_region ?_
  refine S_v E rfl (R_assign E rfl) rfl ?_
  clear E a; intro a E
  refine WL_nil ?_
  refine T_n ?_
  refine WP_seq ?_
  refine WP_region ?_
  refine S_v E rfl (R_move E rfl) rfl ?_
  clear E a; intro a E
  refine S_x (X_pu E S rfl rfl rfl (slices_AppendSeqL h0 (by first | exact Nat.le_trans (chL_len (by omega) _) (by omega) | (first | omega | (simp; omega) | (simp; done) | (simp_all; omega) | grind))) (Hp.le.refl _) ?_)
  clear E a S; rintro a v_2 w M_1 hM_1 hv_2 S E
  replace h0 := h0.le hM_1
  refine S_v E rfl (R_assign E rfl) rfl ?_
  clear E a; intro a E
  refine WL_nil ?_
  refine T_n ?_
  refine WP_ret ?_
  exact F_ret1 E Try.results70 rfl ⟨_, rfl, M_1, hM_1, hv_2, S⟩

set_option maxRecDepth 100000 in
set_option maxHeartbeats 4000000 in
theorem impl_ChunkSeq1 {M : Hp} {v0 : Value} {l0 : List Int} {n1 : Nat} (hn : 0 < n1) (hb1 : n1 ≤ 1000000) (hb : l0.length ≤ 1000000) {bx0 bx1 : Nat} (hbx0 : M bx0 = some (.cells #[v0] 33)) (h0 : RdI M v0 l0) (hbx1 : M bx1 = some (.cells #[.int .i64 (n1 : Int)] 3)) :
    Pu Try.prog (.func (.func 69) #[] #[.pointer (some ⟨bx0, 0, none⟩), .pointer (some ⟨bx1, 0, none⟩)]) M [] (fun r M' => RdII M' r (chL n1 l0)) := by
  refine Pu_enter Try.func69 rfl Try.ntmps69 rfl Try.call69 ?_
  intro a w M1 H hM1 S E
  replace hbx0 := hM1.2 _ _ hbx0
  replace hbx1 := hM1.2 _ _ hbx1
  replace h0 := h0.le hM1
  have b0 := h0.bound
  refine WP_seq ?_
  refine WP_region ?_
  refine S_v E rfl (R_assign E rfl) rfl ?_
  clear E a; intro a E
  refine WL_nil ?_
  refine T_n ?_
  refine WP_seq ?_
  have hbx0k0 := hbx0
  have hbx1k0 := hbx1
  replace S := S.mono_heap (w' := World.drew _) rfl
  refine WP_drawn (C := fun x w => agree M1 w) (bf := (fun i => [])) [0, 2, 5] [0, 2, 1, 3, 4, 5] Try.mixed (by kernel_rfl) (fun x hq => S.imm) ?_
  refine D_v E rfl rfl rfl (fun w hC => (R_loadM E rfl Try.isAgg33 hC (cellM_box hbx0k0))) ?_
  clear E a; intro a E
  refine D_v E rfl rfl rfl (fun w hC => (R_loadM E rfl Try.isAgg3 hC (cellM_box hbx1k0))) ?_
  clear E a; intro a E
  refine D_x rfl rfl rfl (X_pu E S rfl rfl rfl (slices_Values h0) (Hp.le.refl _) ?_)
  clear E a S; rintro a v_2 w M_1 hM_1 hv_2 S E
  replace hbx0 := hM_1.2 _ _ hbx0
  replace hbx1 := hM_1.2 _ _ hbx1
  replace h0 := h0.le hM_1
  refine ⟨fun x hq hb => (agree_le hM_1 S.imm), ?_⟩
  refine D_x rfl rfl rfl (X_pu E S rfl rfl rfl (it_Chunk hv_2 (by first | omega | (simp; done) | (simp; omega)) (by first | omega | (simp; done) | (simp; omega))) (Hp.le.refl _) ?_)
  clear E a S; rintro a v_4 w M_3 hM_3 hv_4 S E
  replace hbx0 := hM_3.2 _ _ hbx0
  replace hbx1 := hM_3.2 _ _ hbx1
  replace h0 := h0.le hM_3
  replace hv_2 := hv_2.le hM_3
  refine ⟨fun x hq hb => (agree_le (hM_1.trans hM_3) S.imm), ?_⟩
  refine D_x rfl rfl rfl (X_pu E S rfl rfl rfl (slices_CollectL hv_4 (by first | exact Nat.le_trans (chL_len (by omega) _) (by omega) | (first | omega | (simp; omega) | (simp; done) | (simp_all; omega) | grind))) (Hp.le.refl _) ?_)
  clear E a S; rintro a v_6 w M_5 hM_5 hv_6 S E
  replace hbx0 := hM_5.2 _ _ hbx0
  replace hbx1 := hM_5.2 _ _ hbx1
  replace h0 := h0.le hM_5
  replace hv_2 := hv_2.le hM_5
  replace hv_4 := hv_4.le hM_5
  refine ⟨fun x hq hb => (agree_le (hM_1.trans (hM_3.trans hM_5)) S.imm), ?_⟩
  refine D_v E rfl rfl rfl (fun w hC => (R_assign E rfl)) ?_
  clear E a; intro a E
  refine D_end (NoP_n ?_)
  refine T_n ?_
  refine WP_ret ?_
  exact F_ret1 E Try.results69 rfl ⟨_, rfl, M_5, (hM_1.trans (hM_3.trans hM_5)), hv_6, S⟩

set_option maxRecDepth 100000 in
set_option maxHeartbeats 4000000 in
theorem it_ChunkP {M : Hp} {v0 : Value} {l0 : List Int} (h0 : SeqV Try.prog v0 M (RInt) l0){n1 : Nat} (hz : n1 = 0) :
    PuP Try.prog (.func (.func 71) #[] #[]) M [v0, .int .i64 ((n1 : Nat) : Int)] := by
  refine PuP_enter Try.func71 rfl Try.ntmps71 rfl Try.call71 ?_
  intro a w M1 H hM1 S E
  replace h0 := h0.le hM1
  refine WP_seq ?_
  refine WP_region ?_
  refine S_x (X_box (cs := #[v0]) E S rfl rfl (cells_one h0.1) ?_)
  clear E a S; rintro a w b_1 E S
  obtain ⟨M_2, hM_2, hb_1, S⟩ := S.freezeB
  replace h0 := h0.le hM_2
  refine S_x (X_box (cs := #[.int .i64 ((n1 : Nat) : Int)]) E S rfl rfl rfl ?_)
  clear E a S; rintro a w b_3 E S
  obtain ⟨M_4, hM_4, hb_3, S⟩ := S.freezeB
  replace h0 := h0.le hM_4
  replace hb_1 := hM_4.2 _ _ hb_1
  refine S_v E rfl (R_assign E rfl) rfl ?_
  clear E a; intro a E
  refine WL_nil ?_
  refine T_n ?_
  refine WP_seq ?_
  refine WP_seq ?_
  refine WP_region ?_
  refine S_v E rfl (R_loadM E rfl Try.isAgg3 S.imm (cellM_box hb_3)) rfl ?_
  clear E a; intro a E
  refine S_v E rfl (R_leq E rfl rfl) rfl ?_
  clear E a; intro a E
  refine WL_nil ?_
  refine T_n ?_
  have hc_5 : (decide (((n1 : Nat) : Int) ≤ 0)) = true := by (apply decide_eq_true; omega)
  refine WP_condT E rfl hc_5 ?_
  refine WP_region ?_
  refine S_v E rfl (R_ifaceS E rfl Try.underlying9) rfl ?_
  clear E a; intro a E
  exact S_x0 (X_panic E rfl (F_panic E ⟨_, _, rfl, M_4, (hM_2.trans hM_4), S⟩))

set_option maxRecDepth 100000 in
set_option maxHeartbeats 4000000 in
theorem impl_ChunkSeq1P {M : Hp} {v0 : Value} {l0 : List Int} {n1 : Nat} (hz : n1 = 0) {bx0 bx1 : Nat} (hbx0 : M bx0 = some (.cells #[v0] 33)) (h0 : RdI M v0 l0) (hbx1 : M bx1 = some (.cells #[.int .i64 (n1 : Int)] 3)) :
    PuP Try.prog (.func (.func 69) #[] #[.pointer (some ⟨bx0, 0, none⟩), .pointer (some ⟨bx1, 0, none⟩)]) M [] := by
  refine PuP_enter Try.func69 rfl Try.ntmps69 rfl Try.call69 ?_
  intro a w M1 H hM1 S E
  replace hbx0 := hM1.2 _ _ hbx0
  replace hbx1 := hM1.2 _ _ hbx1
  replace h0 := h0.le hM1
  refine WP_seq ?_
  refine WP_region ?_
  refine S_v E rfl (R_assign E rfl) rfl ?_
  clear E a; intro a E
  refine WL_nil ?_
  refine T_n ?_
  refine WP_seq ?_
  have hbx0k0 := hbx0
  have hbx1k0 := hbx1
  replace S := S.mono_heap (w' := World.drew _) rfl
  refine WP_drawnP (C := fun x w => agree M1 w) (bf := (fun i => [])) [0, 2, 5] [0, 2, 1, 3, 4, 5] Try.mixed (by kernel_rfl) (fun x hq => S.imm) ?_
  refine D_v E rfl rfl rfl (fun w hC => (R_loadM E rfl Try.isAgg33 hC (cellM_box hbx0k0))) ?_
  clear E a; intro a E
  refine D_v E rfl rfl rfl (fun w hC => (R_loadM E rfl Try.isAgg3 hC (cellM_box hbx1k0))) ?_
  clear E a; intro a E
  refine D_x rfl rfl rfl (X_pu E S rfl rfl rfl (slices_Values h0) (Hp.le.refl _) ?_)
  clear E a S; rintro a v_2 w M_1 hM_1 hv_2 S E
  replace hbx0 := hM_1.2 _ _ hbx0
  replace hbx1 := hM_1.2 _ _ hbx1
  replace h0 := h0.le hM_1
  refine ⟨fun x hq hb => (agree_le hM_1 S.imm), ?_⟩
  exact D_x rfl rfl rfl (X_puP E S rfl rfl (it_ChunkP hv_2 (by first | assumption | rfl | omega)) (Hp.le.refl _) (fun _ _ w M_ h S => PanQ_p E (fun _ => F_panic0 ⟨_, _, rfl, M_, ((hM_1).trans h), S⟩)))

set_option maxRecDepth 100000 in
set_option maxHeartbeats 4000000 in
theorem impl_ChunkSeq_pos {M : Hp} {v0 : Value} {l0 : List Int} (h0 : RdI M v0 l0){n1 : Nat} (hn : 0 < n1) (hb1 : n1 ≤ 1000000) (hb : l0.length ≤ 1000000) :
    Pu Try.prog (.func (.func 20) #[] #[]) M [v0, .int .i64 ((n1 : Nat) : Int)] (fun r M' => ∃ t0, r = .tuple #[t0, .bool true] ∧ RdII M' t0 (chL n1 l0)) := by
  refine Pu_enter Try.func20 rfl Try.ntmps20 rfl Try.call20 ?_
  intro a w M1 H hM1 S E
  replace h0 := h0.le hM1
  have b0 := h0.bound
  refine WP_seq ?_
  refine WP_region ?_
  refine S_x (X_box (cs := #[v0]) E S rfl rfl (cells_one (RdS.one' h0)) ?_)
  clear E a S; rintro a w b_1 E S
  obtain ⟨M_2, hM_2, hb_1, S⟩ := S.freezeB
  replace h0 := h0.le hM_2
  refine S_x (X_box (cs := #[.int .i64 ((n1 : Nat) : Int)]) E S rfl rfl rfl ?_)
  clear E a S; rintro a w b_3 E S
  obtain ⟨M_4, hM_4, hb_3, S⟩ := S.freezeB
  replace h0 := h0.le hM_4
  replace hb_1 := hM_4.2 _ _ hb_1
  refine S_v E rfl (R_assign E rfl) rfl ?_
  clear E a; intro a E
  refine S_v E rfl (R_assign E rfl) rfl ?_
  clear E a; intro a E
  refine WL_nil ?_
  refine T_n ?_
  refine WP_seq ?_
  refine WP_region ?_
  refine S_v E rfl (R_makeFunc E rfl rfl) rfl ?_
  clear E a; intro a E
  refine S_x (X_pu E S rfl rfl rfl (impl_trieds ⟨rfl, impl_ChunkSeq1  (by omega) (by omega) (by first | omega | (simp; done) | (simp; omega)) hb_1 h0 hb_3⟩) (Hp.le.refl _) ?_)
  clear E a S; rintro a _ w M_5 hM_5 ⟨v_6, rfl, hv_6⟩ S E
  replace h0 := h0.le hM_5
  replace hb_1 := hM_5.2 _ _ hb_1
  replace hb_3 := hM_5.2 _ _ hb_3
  refine S_v E rfl (R_extract E rfl rfl) rfl ?_
  clear E a; intro a E
  refine S_v E rfl (R_extract E rfl rfl) rfl ?_
  clear E a; intro a E
  refine S_v E rfl (R_assign E rfl) rfl ?_
  clear E a; intro a E
  refine S_v E rfl (R_assign E rfl) rfl ?_
  clear E a; intro a E
  refine WL_nil ?_
  refine T_n ?_
  refine WP_ret ?_
  exact F_ret2 E Try.results20 rfl rfl ⟨_, rfl, M_5, (hM_2.trans (hM_4.trans hM_5)), ⟨_, (by first | rfl | (simp; done) | (simp_all; done)), (by rw [show (chL n1 l0) = (chL n1 l0) from by ((try clear S); (try clear E); first | rfl | (simp; done) | (simp_all; done) | grind [List.take_add_one])]; exact hv_6)⟩, S⟩
theorem impl_ChunkSeq_zero {M : Hp} {v0 : Value} {l0 : List Int} (h0 : RdI M v0 l0){n1 : Nat} (hz : n1 = 0) :
    Pu Try.prog (.func (.func 20) #[] #[]) M [v0, .int .i64 ((n1 : Nat) : Int)] (fun r M' => ∃ t0, r = .tuple #[t0, .bool false] ∧ RdII M' t0 ([] : List (List Int))) := by
  refine Pu_enter Try.func20 rfl Try.ntmps20 rfl Try.call20 ?_
  intro a w M1 H hM1 S E
  replace h0 := h0.le hM1
  have b0 := h0.bound
  refine WP_seq ?_
  refine WP_region ?_
  refine S_x (X_box (cs := #[v0]) E S rfl rfl (cells_one (RdS.one' h0)) ?_)
  clear E a S; rintro a w b_1 E S
  obtain ⟨M_2, hM_2, hb_1, S⟩ := S.freezeB
  replace h0 := h0.le hM_2
  refine S_x (X_box (cs := #[.int .i64 ((n1 : Nat) : Int)]) E S rfl rfl rfl ?_)
  clear E a S; rintro a w b_3 E S
  obtain ⟨M_4, hM_4, hb_3, S⟩ := S.freezeB
  replace h0 := h0.le hM_4
  replace hb_1 := hM_4.2 _ _ hb_1
  refine S_v E rfl (R_assign E rfl) rfl ?_
  clear E a; intro a E
  refine S_v E rfl (R_assign E rfl) rfl ?_
  clear E a; intro a E
  refine WL_nil ?_
  refine T_n ?_
  refine WP_seq ?_
  refine WP_region ?_
  refine S_v E rfl (R_makeFunc E rfl rfl) rfl ?_
  clear E a; intro a E
  refine S_x (X_pu E S rfl rfl rfl (impl_triedsP ⟨rfl, impl_ChunkSeq1P  (by first | assumption | rfl | omega) hb_1 h0 hb_3⟩) (Hp.le.refl _) ?_)
  clear E a S; rintro a _ w M_5 hM_5 ⟨v_6, rfl, hv_6⟩ S E
  replace h0 := h0.le hM_5
  replace hb_1 := hM_5.2 _ _ hb_1
  replace hb_3 := hM_5.2 _ _ hb_3
  refine S_v E rfl (R_extract E rfl rfl) rfl ?_
  clear E a; intro a E
  refine S_v E rfl (R_extract E rfl rfl) rfl ?_
  clear E a; intro a E
  refine S_v E rfl (R_assign E rfl) rfl ?_
  clear E a; intro a E
  refine S_v E rfl (R_assign E rfl) rfl ?_
  clear E a; intro a E
  refine WL_nil ?_
  refine T_n ?_
  refine WP_ret ?_
  exact F_ret2 E Try.results20 rfl rfl ⟨_, rfl, M_5, (hM_2.trans (hM_4.trans hM_5)), ⟨_, (by first | rfl | (simp; done) | (simp_all; done)), hv_6⟩, S⟩
theorem impl_ChunkSeq {M : Hp} {v0 : Value} {l0 : List Int} (h0 : RdI M v0 l0){n1 : Nat} (hb1 : n1 ≤ 1000000) (hb : l0.length ≤ 1000000) :
    Pu Try.prog (.func (.func 20) #[] #[]) M [v0, .int .i64 ((n1 : Nat) : Int)] (fun r M' => ∃ t0, r = .tuple #[t0, .bool (decide (0 < n1))] ∧ RdII M' t0 (chunkR n1 l0)) := by
  rcases Nat.eq_zero_or_pos n1 with h | h
  · have h9 := impl_ChunkSeq_zero (M := M) h0 h
    subst h; exact h9
  · have h9 := impl_ChunkSeq_pos (M := M) h0 h hb1 hb
    rw [chunkR_pos h, decide_eq_true h]; exact h9

set_option maxRecDepth 100000 in
set_option maxHeartbeats 4000000 in
theorem laws_joined {M : Hp} {v0 : Value} {l0 : List (List Int)} (h0 : RdII M v0 l0) (hb : total l0 ≤ 1000000000) :
    Pu Try.prog (.func (.func 22) #[] #[]) M [v0] (fun r M' => RdI M' r ((l0).flatten)) := by
  refine Pu_enter Try.func22 rfl Try.ntmps22 rfl Try.call22 ?_
  intro a w M1 H hM1 S E
  replace h0 := h0.le hM1
  have b0 := h0.bound
  refine WP_seq ?_
  refine WP_region ?_
  refine S_v E rfl (R_assign E rfl) rfl ?_
  clear E a; intro a E
  refine WL_nil ?_
  refine T_n ?_
  refine WP_seq ?_
  refine WP_region ?_
  refine S_v E rfl (R_assign E rfl) rfl ?_
  clear E a; intro a E
  refine WL_nil ?_
  refine T_n ?_
  refine WP_seq ?_
  refine WP_seq ?_
  refine WP_region ?_
  refine S_v E rfl (R_move E rfl) rfl ?_
  clear E a; intro a E
  refine S_v E rfl (R_lenV E rfl T34 h0.len) rfl ?_
  clear E a; intro a E
  refine S_v E rfl (R_move E rfl) rfl ?_
  clear E a; intro a E
  refine WL_nil ?_
  refine T_n ?_
  refine WP_block ?_
  replace S := (S.ownNil (e := 3) (sz := 1)).made0
  replace S := S.re1 (l' := (l0.take 0).flatten) (by first | (rw [flatten_succ (by assumption)]; done) | (rw [List.take_of_length_le (by omega)]; done) | (simp; done))
  refine WP_loop (γ := Nat) (fun (k : Nat) a w => ∃ (M_2 : Hp) (u3 : Value), Hp.le M1 M_2 ∧ St w M_2 (OwnI 3 u3 ((l0.take k).flatten) :: H) ∧ Env a 17 [] [(3, u3), (6, v0), (7, .int .i64 (((l0).length : Nat) : Int)), (8, .int .i64 ((k : Nat) : Int))] ∧ (k ≤ (l0).length)) (fun k => ((l0).length) - k) 0 ⟨M1, _, Hp.le.refl _, S, E.keep ⟨rfl, rfl, rfl, rfl, trivial⟩, by ((try clear S); (try clear E); first | assumption | omega | rfl | (simp; done) | (simp_all; done) | (simp [List.take_add_one, *]; done) | grind [List.take_add_one])⟩ ?_
  try clear E
  try clear S
  try clear a
  try clear w
  rintro k a w ⟨M_2, u3, hM_2, S, E, hL0_0⟩
  replace h0 := h0.le hM_2
  have ht := total_take_le l0 k; have hf := flatten_len (l0.take k)
  refine WP_seq ?_
  refine WP_region ?_
  refine S_v E rfl (R_lss E rfl rfl) rfl ?_
  clear E a; intro a E
  refine WL_nil ?_
  refine T_n ?_
  refine WP_seq ?_
  refine WP_cond E rfl (fun hc_3 => ?_) (fun hc_3 => ?_)
  · replace hc_3 := of_decide_eq_true hc_3
    refine WP_skip ?_
    refine T_n ?_
    refine WP_seq ?_
    refine WP_block ?_
    refine WP_seq ?_
    refine WP_region ?_
    obtain ⟨x_4, hx_4⟩ : ∃ x, (l0)[k]? = some x := ⟨_, List.getElem?_eq_getElem (by first | omega | (simp; done) | (simp; omega) | (simp_all; omega))⟩
    obtain ⟨p_5, u_6, hp_5, qp_5, hu_6⟩ := h0.at hx_4
    have bu_6 := hu_6.bound
    refine S_v E rfl (R_idx E rfl rfl T34 hp_5 rfl) rfl ?_
    clear E a; intro a E
    refine S_v E rfl (R_loadM E rfl Try.isAgg33 S.imm qp_5) rfl ?_
    clear E a; intro a E
    refine S_v E rfl (R_assign E rfl) rfl ?_
    clear E a; intro a E
    refine WL_nil ?_
    refine T_n ?_
    refine WP_region ?_
    refine S_v E rfl (R_move E rfl) rfl ?_
    clear E a; intro a E
    refine S_v E rfl (R_move E rfl) rfl ?_
    clear E a; intro a E
    refine S_x (X_appendI (xs := (l0.take k).flatten) E S rfl rfl rfl T33 hu_6 (by (have ht2 := total_take_le l0 (k+1); rw [total_succ (by assumption)] at ht2; omega)) ?_)
    clear E a S; rintro a w v_7 E S
    refine S_v E rfl (R_assign E rfl) rfl ?_
    clear E a; intro a E
    refine WL_nil ?_
    refine B_n ?_
    refine T_n ?_
    refine WP_region ?_
    refine S_v E rfl (R_addx (m := ((k + 1 : Nat) : Int)) E rfl rfl (by omega) (by omega)) rfl ?_
    clear E a; intro a E
    refine S_v E rfl (R_move E rfl) rfl ?_
    clear E a; intro a E
    refine WL_nil ?_
    refine T_n ?_
    replace S := S.re1 (l' := (l0.take (k + 1)).flatten) (by first | (rw [flatten_succ (by assumption)]; done) | (rw [List.take_of_length_le (by omega)]; done) | (simp; done))
    exact ⟨k + 1, ⟨M_2, _, hM_2, S, E.keep ⟨rfl, rfl, rfl, rfl, trivial⟩, by ((try clear S); (try clear E); first | assumption | omega | rfl | (simp; done) | (simp_all; done) | (simp [List.take_add_one, *]; done) | grind [List.take_add_one])⟩, by omega⟩
  · replace hc_3 := of_decide_eq_false hc_3
    refine WP_exit ?_
    refine T_x ?_
    refine T_x ?_
    refine B_x ?_
    refine T_n ?_
    refine WP_seq ?_
    refine WP_region ?_
    refine S_v E rfl (R_move E rfl) rfl ?_
    clear E a; intro a E
    refine S_v E rfl (R_assign E rfl) rfl ?_
    clear E a; intro a E
    refine WL_nil ?_
    refine T_n ?_
    refine WP_ret ?_
    have S0 := S; clear S
    obtain ⟨M_8, hM_8, hz_9, S⟩ := S0.freezeI (by (have ht := total_take_le l0 k; rw [flatten_len]; omega))
    clear S0
    replace h0 := h0.le hM_8
    exact F_ret1 E Try.results22 rfl ⟨_, rfl, M_8, (hM_2.trans hM_8), (by rw [show ((l0).flatten) = ((l0.take k).flatten) from by first | (rw [flatten_succ (by assumption)]; done) | (rw [List.take_of_length_le (by omega)]; done) | (simp; done)]; exact hz_9), S⟩

set_option maxRecDepth 100000 in
set_option maxHeartbeats 4000000 in
theorem laws_eq {M : Hp} {v0 v1 : Value} {l0 l1 : List Int} (h0 : RdI M v0 l0) (h1 : RdI M v1 l1) :
    Pu Try.prog (.func (.func 21) #[] #[]) M [v0, v1] (fun r M' => r = .bool (decide (l0 = l1))) := by
  refine Pu_enter Try.func21 rfl Try.ntmps21 rfl Try.call21 ?_
  intro a w M1 H hM1 S E
  replace h0 := h0.le hM1
  replace h1 := h1.le hM1
  have b0 := h0.bound
  have b1 := h1.bound
  refine WP_seq ?_
  refine WP_region ?_
  refine S_v E rfl (R_assign E rfl) rfl ?_
  clear E a; intro a E
  refine WL_nil ?_
  refine T_n ?_
  refine WP_seq ?_
  refine WP_seq ?_
  refine WP_region ?_
  refine S_v E rfl (R_move E rfl) rfl ?_
  clear E a; intro a E
  refine S_v E rfl (R_lenV E rfl T33 h0.len) rfl ?_
  clear E a; intro a E
  refine S_v E rfl (R_move E rfl) rfl ?_
  clear E a; intro a E
  refine S_v E rfl (R_lenV E rfl T33 h1.len) rfl ?_
  clear E a; intro a E
  refine S_v E rfl (R_neq E rfl rfl) rfl ?_
  clear E a; intro a E
  refine WL_nil ?_
  refine T_n ?_
  refine WP_cond E rfl (fun hc_1 => ?_) (fun hc_1 => ?_)
  · replace hc_1 := of_decide_eq_true hc_1
    refine WP_seq ?_
    refine WP_region ?_
    refine S_v E rfl (R_assign E rfl) rfl ?_
    clear E a; intro a E
    refine WL_nil ?_
    refine T_n ?_
    refine WP_ret ?_
    refine T_r ?_
    exact F_ret1 E Try.results21 rfl ⟨_, rfl, M1, (Hp.le.refl _), (bF (by ((try clear S); (try clear E); first | assumption | omega | rfl | (simp; done) | (simp_all; done) | (simp [List.take_add_one, *]; done) | grind [List.take_add_one]))), S⟩
  · replace hc_1 := of_decide_eq_false hc_1
    refine WP_skip ?_
    refine T_n ?_
    refine WP_seq ?_
    refine WP_seq ?_
    refine WP_region ?_
    refine S_v E rfl (R_move E rfl) rfl ?_
    clear E a; intro a E
    refine S_v E rfl (R_lenV E rfl T33 h0.len) rfl ?_
    clear E a; intro a E
    refine S_v E rfl (R_move E rfl) rfl ?_
    clear E a; intro a E
    refine WL_nil ?_
    refine T_n ?_
    refine WP_block ?_
    refine WP_loop (γ := Nat) (fun (k : Nat) a w => ∃ (M_2 : Hp), Hp.le M1 M_2 ∧ St w M_2 (H) ∧ Env a 26 [] [(0, v0), (1, v1), (12, .int .i64 (((l0).length : Nat) : Int)), (13, .int .i64 ((k : Nat) : Int))] ∧ (k ≤ (l0).length) ∧ (l0.length = l1.length) ∧ (l0.take k = l1.take k)) (fun k => ((l0).length) - k) 0 ⟨M1, Hp.le.refl _, S, E.keep ⟨rfl, rfl, rfl, rfl, trivial⟩, by ((try clear S); (try clear E); first | assumption | omega | rfl | (simp; done) | (simp_all; done) | (simp [List.take_add_one, *]; done) | grind [List.take_add_one]), by ((try clear S); (try clear E); first | assumption | omega | rfl | (simp; done) | (simp_all; done) | (simp [List.take_add_one, *]; done) | grind [List.take_add_one]), by ((try clear S); (try clear E); first | assumption | omega | rfl | (simp; done) | (simp_all; done) | (simp [List.take_add_one, *]; done) | grind [List.take_add_one])⟩ ?_
    try clear E
    try clear S
    try clear a
    try clear w
    rintro k a w ⟨M_2, hM_2, S, E, hL0_0, hL0_1, hL0_2⟩
    replace h0 := h0.le hM_2
    replace h1 := h1.le hM_2
    refine WP_seq ?_
    refine WP_region ?_
    refine S_v E rfl (R_lss E rfl rfl) rfl ?_
    clear E a; intro a E
    refine WL_nil ?_
    refine T_n ?_
    refine WP_seq ?_
    refine WP_cond E rfl (fun hc_3 => ?_) (fun hc_3 => ?_)
    · replace hc_3 := of_decide_eq_true hc_3
      refine WP_skip ?_
      refine T_n ?_
      refine WP_seq ?_
      refine WP_block ?_
      refine WP_seq ?_
      refine WP_region ?_
      refine S_v E rfl (R_move E rfl) rfl ?_
      clear E a; intro a E
      refine S_v E rfl (R_assign E rfl) rfl ?_
      clear E a; intro a E
      refine WL_nil ?_
      refine T_n ?_
      refine WP_seq ?_
      replace S := S.mono_heap (w' := World.drew _) rfl
      refine WP_drawn (C := fun x w => agree M_2 w) (bf := (fun i => [])) [0, 1, 2, 3, 4, 5, 6, 7, 8] [0, 1, 2, 3, 4, 5, 6, 7, 8] Try.mixed (by kernel_rfl) (fun x hq => S.imm) ?_
      refine D_v E rfl rfl rfl (fun w hC => (R_move E rfl)) ?_
      clear E a; intro a E
      refine D_v E rfl rfl rfl (fun w hC => (R_move E rfl)) ?_
      clear E a; intro a E
      obtain ⟨x_4, hx_4⟩ : ∃ x, (l0)[k]? = some x := ⟨_, List.getElem?_eq_getElem (by first | omega | (simp; done) | (simp; omega) | (simp_all; omega))⟩
      obtain ⟨p_5, hp_5, qp_5⟩ := h0.at hx_4
      refine D_v E rfl rfl rfl (fun w hC => (R_idx E rfl rfl T33 hp_5 rfl)) ?_
      clear E a; intro a E
      refine D_v E rfl rfl rfl (fun w hC => (R_loadM E rfl Try.isAgg3 hC qp_5)) ?_
      clear E a; intro a E
      refine D_v E rfl rfl rfl (fun w hC => (R_move E rfl)) ?_
      clear E a; intro a E
      refine D_v E rfl rfl rfl (fun w hC => (R_move E rfl)) ?_
      clear E a; intro a E
      obtain ⟨x_6, hx_6⟩ : ∃ x, (l1)[k]? = some x := ⟨_, List.getElem?_eq_getElem (by first | omega | (simp; done) | (simp; omega) | (simp_all; omega))⟩
      obtain ⟨p_7, hp_7, qp_7⟩ := h1.at hx_6
      refine D_v E rfl rfl rfl (fun w hC => (R_idx E rfl rfl T33 hp_7 rfl)) ?_
      clear E a; intro a E
      refine D_v E rfl rfl rfl (fun w hC => (R_loadM E rfl Try.isAgg3 hC qp_7)) ?_
      clear E a; intro a E
      refine D_v E rfl rfl rfl (fun w hC => (R_neq E rfl rfl)) ?_
      clear E a; intro a E
      refine D_end (NoP_n ?_)
      refine T_n ?_
      refine WP_cond E rfl (fun hc_8 => ?_) (fun hc_8 => ?_)
      · replace hc_8 := of_decide_eq_true hc_8
        refine WP_seq ?_
        refine WP_region ?_
        refine S_v E rfl (R_assign E rfl) rfl ?_
        clear E a; intro a E
        refine WL_nil ?_
        refine T_n ?_
        refine WP_ret ?_
        refine B_r ?_
        refine T_r ?_
        refine T_r ?_
        refine B_r ?_
        refine T_r ?_
        exact F_ret1 E Try.results21 rfl ⟨_, rfl, M_2, hM_2, (bF (by ((try clear S); (try clear E); first | assumption | omega | rfl | (simp; done) | (simp_all; done) | (simp [List.take_add_one, *]; done) | grind [List.take_add_one]))), S⟩
      · replace hc_8 := of_decide_eq_false hc_8
        refine WP_skip ?_
        refine B_n ?_
        refine T_n ?_
        refine WP_region ?_
        refine S_v E rfl (R_addx (m := ((k + 1 : Nat) : Int)) E rfl rfl (by omega) (by omega)) rfl ?_
        clear E a; intro a E
        refine S_v E rfl (R_move E rfl) rfl ?_
        clear E a; intro a E
        refine WL_nil ?_
        refine T_n ?_
        exact ⟨k + 1, ⟨M_2, hM_2, S, E.keep ⟨rfl, rfl, rfl, rfl, trivial⟩, by ((try clear S); (try clear E); first | assumption | omega | rfl | (simp; done) | (simp_all; done) | (simp [List.take_add_one, *]; done) | grind [List.take_add_one]), by ((try clear S); (try clear E); first | assumption | omega | rfl | (simp; done) | (simp_all; done) | (simp [List.take_add_one, *]; done) | grind [List.take_add_one]), by ((try clear S); (try clear E); first | assumption | omega | rfl | (simp; done) | (simp_all; done) | (simp [List.take_add_one, *]; done) | grind [List.take_add_one])⟩, by omega⟩
    · replace hc_3 := of_decide_eq_false hc_3
      refine WP_exit ?_
      refine T_x ?_
      refine T_x ?_
      refine B_x ?_
      refine T_n ?_
      refine WP_seq ?_
      refine WP_region ?_
      refine S_v E rfl (R_assign E rfl) rfl ?_
      clear E a; intro a E
      refine WL_nil ?_
      refine T_n ?_
      refine WP_ret ?_
      exact F_ret1 E Try.results21 rfl ⟨_, rfl, M_2, hM_2, (bT (by ((try clear S); (try clear E); first | assumption | omega | rfl | (simp; done) | (simp_all; done) | (simp [List.take_add_one, *]; done) | grind [List.take_add_one]))), S⟩

set_option maxRecDepth 100000 in
set_option maxHeartbeats 4000000 in
theorem laws_eqLists {M : Hp} {v0 v1 : Value} {l0 l1 : List (List Int)} (h0 : RdII M v0 l0) (h1 : RdII M v1 l1) :
    Pu Try.prog (.func (.func 23) #[] #[]) M [v0, v1] (fun r M' => r = .bool (decide (l0 = l1))) := by
  refine Pu_enter Try.func23 rfl Try.ntmps23 rfl Try.call23 ?_
  intro a w M1 H hM1 S E
  replace h0 := h0.le hM1
  replace h1 := h1.le hM1
  have b0 := h0.bound
  have b1 := h1.bound
  refine WP_seq ?_
  refine WP_region ?_
  refine S_v E rfl (R_assign E rfl) rfl ?_
  clear E a; intro a E
  refine WL_nil ?_
  refine T_n ?_
  refine WP_seq ?_
  refine WP_seq ?_
  refine WP_region ?_
  refine S_v E rfl (R_move E rfl) rfl ?_
  clear E a; intro a E
  refine S_v E rfl (R_lenV E rfl T34 h0.len) rfl ?_
  clear E a; intro a E
  refine S_v E rfl (R_move E rfl) rfl ?_
  clear E a; intro a E
  refine S_v E rfl (R_lenV E rfl T34 h1.len) rfl ?_
  clear E a; intro a E
  refine S_v E rfl (R_neq E rfl rfl) rfl ?_
  clear E a; intro a E
  refine WL_nil ?_
  refine T_n ?_
  refine WP_cond E rfl (fun hc_1 => ?_) (fun hc_1 => ?_)
  · replace hc_1 := of_decide_eq_true hc_1
    refine WP_seq ?_
    refine WP_region ?_
    refine S_v E rfl (R_assign E rfl) rfl ?_
    clear E a; intro a E
    refine WL_nil ?_
    refine T_n ?_
    refine WP_ret ?_
    refine T_r ?_
    exact F_ret1 E Try.results23 rfl ⟨_, rfl, M1, (Hp.le.refl _), (bF (by (first | (simp; done) | exact eqp_no (by assumption) (by assumption) (by first | assumption | simp_all) | (have h9 : l0.take k = l1.take k := (by assumption); rwa [List.take_of_length_le (by omega), List.take_of_length_le (by omega)] at h9) | (intro h9; subst h9; omega) | (intro h9; subst h9; simp_all; done)))), S⟩
  · replace hc_1 := of_decide_eq_false hc_1
    refine WP_skip ?_
    refine T_n ?_
    refine WP_seq ?_
    refine WP_seq ?_
    refine WP_region ?_
    refine S_v E rfl (R_move E rfl) rfl ?_
    clear E a; intro a E
    refine S_v E rfl (R_lenV E rfl T34 h0.len) rfl ?_
    clear E a; intro a E
    refine S_v E rfl (R_move E rfl) rfl ?_
    clear E a; intro a E
    refine WL_nil ?_
    refine T_n ?_
    refine WP_block ?_
    refine WP_loop (γ := Nat) (fun (k : Nat) a w => ∃ (M_2 : Hp), Hp.le M1 M_2 ∧ St w M_2 (H) ∧ Env a 27 [] [(0, v0), (1, v1), (12, .int .i64 (((l0).length : Nat) : Int)), (13, .int .i64 ((k : Nat) : Int))] ∧ (k ≤ (l0).length) ∧ (l0.length = l1.length) ∧ (l0.take k = l1.take k)) (fun k => ((l0).length) - k) 0 ⟨M1, Hp.le.refl _, S, E.keep ⟨rfl, rfl, rfl, rfl, trivial⟩, by ((try clear S); (try clear E); first | assumption | omega | rfl | (simp; done) | (simp_all; done) | (simp [List.take_add_one, *]; done) | grind [List.take_add_one]), by ((try clear S); (try clear E); first | assumption | omega | rfl | (simp; done) | (simp_all; done) | (simp [List.take_add_one, *]; done) | grind [List.take_add_one]), by ((try clear S); (try clear E); first | assumption | omega | rfl | (simp; done) | (simp_all; done) | (simp [List.take_add_one, *]; done) | grind [List.take_add_one])⟩ ?_
    try clear E
    try clear S
    try clear a
    try clear w
    rintro k a w ⟨M_2, hM_2, S, E, hL0_0, hL0_1, hL0_2⟩
    replace h0 := h0.le hM_2
    replace h1 := h1.le hM_2
    refine WP_seq ?_
    refine WP_region ?_
    refine S_v E rfl (R_lss E rfl rfl) rfl ?_
    clear E a; intro a E
    refine WL_nil ?_
    refine T_n ?_
    refine WP_seq ?_
    refine WP_cond E rfl (fun hc_3 => ?_) (fun hc_3 => ?_)
    · replace hc_3 := of_decide_eq_true hc_3
      refine WP_skip ?_
      refine T_n ?_
      refine WP_seq ?_
      refine WP_block ?_
      refine WP_seq ?_
      refine WP_region ?_
      refine S_v E rfl (R_move E rfl) rfl ?_
      clear E a; intro a E
      refine S_v E rfl (R_assign E rfl) rfl ?_
      clear E a; intro a E
      refine WL_nil ?_
      refine T_n ?_
      refine WP_seq ?_
      replace S := S.mono_heap (w' := World.drew _) rfl
      refine WP_drawn (C := fun x w => agree M_2 w) (bf := (fun i => [])) [0, 1, 2, 3, 4, 5, 6, 7, 9] [0, 1, 2, 3, 4, 5, 6, 7, 8, 9] Try.mixed (by kernel_rfl) (fun x hq => S.imm) ?_
      refine D_v E rfl rfl rfl (fun w hC => (R_move E rfl)) ?_
      clear E a; intro a E
      refine D_v E rfl rfl rfl (fun w hC => (R_move E rfl)) ?_
      clear E a; intro a E
      obtain ⟨x_4, hx_4⟩ : ∃ x, (l0)[k]? = some x := ⟨_, List.getElem?_eq_getElem (by first | omega | (simp; done) | (simp; omega) | (simp_all; omega))⟩
      obtain ⟨p_5, u_6, hp_5, qp_5, hu_6⟩ := h0.at hx_4
      have bu_6 := hu_6.bound
      refine D_v E rfl rfl rfl (fun w hC => (R_idx E rfl rfl T34 hp_5 rfl)) ?_
      clear E a; intro a E
      refine D_v E rfl rfl rfl (fun w hC => (R_loadM E rfl Try.isAgg33 hC qp_5)) ?_
      clear E a; intro a E
      refine D_v E rfl rfl rfl (fun w hC => (R_move E rfl)) ?_
      clear E a; intro a E
      refine D_v E rfl rfl rfl (fun w hC => (R_move E rfl)) ?_
      clear E a; intro a E
      obtain ⟨x_7, hx_7⟩ : ∃ x, (l1)[k]? = some x := ⟨_, List.getElem?_eq_getElem (by first | omega | (simp; done) | (simp; omega) | (simp_all; omega))⟩
      obtain ⟨p_8, u_9, hp_8, qp_8, hu_9⟩ := h1.at hx_7
      have bu_9 := hu_9.bound
      refine D_v E rfl rfl rfl (fun w hC => (R_idx E rfl rfl T34 hp_8 rfl)) ?_
      clear E a; intro a E
      refine D_v E rfl rfl rfl (fun w hC => (R_loadM E rfl Try.isAgg33 hC qp_8)) ?_
      clear E a; intro a E
      refine D_x rfl rfl rfl (X_pu E S rfl rfl rfl (laws_eq hu_6 hu_9) (Hp.le.refl _) ?_)
      clear E a S; rintro a _ w M_10 hM_10 rfl S E
      replace h0 := h0.le hM_10
      replace h1 := h1.le hM_10
      replace hu_6 := hu_6.le hM_10
      replace hu_9 := hu_9.le hM_10
      refine ⟨fun x hq hb => (agree_le hM_10 S.imm), ?_⟩
      refine D_v E rfl rfl rfl (fun w hC => (R_not E rfl)) ?_
      clear E a; intro a E
      refine D_end (NoP_n ?_)
      refine T_n ?_
      refine WP_cond E rfl (fun hc_11 => ?_) (fun hc_11 => ?_)
      · refine WP_seq ?_
        refine WP_region ?_
        refine S_v E rfl (R_assign E rfl) rfl ?_
        clear E a; intro a E
        refine WL_nil ?_
        refine T_n ?_
        refine WP_ret ?_
        refine B_r ?_
        refine T_r ?_
        refine T_r ?_
        refine B_r ?_
        refine T_r ?_
        exact F_ret1 E Try.results23 rfl ⟨_, rfl, M_10, (hM_2.trans hM_10), (bF (by (first | (simp; done) | exact eqp_no (by assumption) (by assumption) (by first | assumption | simp_all) | (have h9 : l0.take k = l1.take k := (by assumption); rwa [List.take_of_length_le (by omega), List.take_of_length_le (by omega)] at h9) | (intro h9; subst h9; omega) | (intro h9; subst h9; simp_all; done)))), S⟩
      · refine WP_skip ?_
        refine B_n ?_
        refine T_n ?_
        refine WP_region ?_
        refine S_v E rfl (R_addx (m := ((k + 1 : Nat) : Int)) E rfl rfl (by omega) (by omega)) rfl ?_
        clear E a; intro a E
        refine S_v E rfl (R_move E rfl) rfl ?_
        clear E a; intro a E
        refine WL_nil ?_
        refine T_n ?_
        exact ⟨k + 1, ⟨M_10, (hM_2.trans hM_10), S, E.keep ⟨rfl, rfl, rfl, rfl, trivial⟩, by ((try clear S); (try clear E); first | assumption | omega | rfl | (simp; done) | (simp_all; done) | (simp [List.take_add_one, *]; done) | grind [List.take_add_one]), by ((try clear S); (try clear E); first | assumption | omega | rfl | (simp; done) | (simp_all; done) | (simp [List.take_add_one, *]; done) | grind [List.take_add_one]), (by exact eqp_step (by assumption) (by assumption) (by assumption) (by first | assumption | simp_all))⟩, by omega⟩
    · replace hc_3 := of_decide_eq_false hc_3
      refine WP_exit ?_
      refine T_x ?_
      refine T_x ?_
      refine B_x ?_
      refine T_n ?_
      refine WP_seq ?_
      refine WP_region ?_
      refine S_v E rfl (R_assign E rfl) rfl ?_
      clear E a; intro a E
      refine WL_nil ?_
      refine T_n ?_
      refine WP_ret ?_
      exact F_ret1 E Try.results23 rfl ⟨_, rfl, M_2, hM_2, (bT (by (first | (simp; done) | exact eqp_no (by assumption) (by assumption) (by first | assumption | simp_all) | (have h9 : l0.take k = l1.take k := (by assumption); rwa [List.take_of_length_le (by omega), List.take_of_length_le (by omega)] at h9) | (intro h9; subst h9; omega) | (intro h9; subst h9; simp_all; done)))), S⟩

set_option maxRecDepth 100000 in
set_option maxHeartbeats 4000000 in
theorem it_Buffer11 {M : Hp} {n1 b : Nat} {y : Value} {J X : List (List Int) → Hp → HProp → Prop} {l0 : List Int} (hn : 0 < n1) (hb1 : n1 ≤ 1000000) (hJM : JM J) (hY : YieldOK Try.prog y M (RSl 1 RInt) (chL n1 l0) J X) {bx1 bx3 : Nat} (hbx1 : M bx1 = some (.cells #[.int .i64 (n1 : Int)] 3)) (hbx3 : M bx3 = some (.cells #[y] 122)) :
    YieldOK Try.prog (.func (.func 112) #[] #[.pointer (some ⟨b, 0, none⟩), .pointer (some ⟨bx1, 0, none⟩), .pointer (some ⟨bx3, 0, none⟩)]) M RInt l0 (bufJ 33 3 n1 b J) (bufX 33 3 n1 b X) := by
  refine YieldOK_enter (k := 1) Try.func112 rfl Try.ntmps112 rfl (fun M vs x h => by rw [show vs = _ from h]; rfl) Try.call112 ?_
  rintro pre x _ a w M1 _ H hM1 hp rfl ⟨uB, cB, rfl, hJ⟩ S E
  replace S := S.unpack3
  have hcl := ch_lt hn pre
  have hcx : ((chS n1 pre).2 ++ [x]).length = (chS n1 pre).2.length + 1 := by simp
  have hpl := prefix_lt hp
  replace hY := hY.le hM1
  replace hbx1 := hM1.2 _ _ hbx1
  replace hbx3 := hM1.2 _ _ hbx3
  refine WP_seq ?_
  refine WP_region ?_
  refine S_v E rfl (R_assign E rfl) rfl ?_
  clear E a; intro a E
  refine WL_nil ?_
  refine T_n ?_
  refine WP_seq ?_
  refine WP_region ?_
  refine S_v E rfl (R_load E rfl (Try.isAgg33 _) (cell_blk (S.mem (.head _)))) rfl ?_
  clear E a; intro a E
  refine S_v E rfl (R_move E rfl) rfl ?_
  clear E a; intro a E
  refine S_x (X_buildI (ys := [x]) E S rfl T33 rfl rfl rfl ?_)
  clear E a S; rintro a w v_1 E S
  replace S := S.front2
  replace S := S.front1
  refine S_x (X_appendB (xs := (chS n1 pre).2) (ys := [x]) E S rfl rfl rfl T33 (by (first | (simp only [List.length_append, List.length_cons, List.length_nil]; omega) | omega)) ?_)
  clear E a S; rintro a w v_2 E S
  have ho_3 := S.oneI
  replace S := S.front1
  refine S_x0 (X_store E S rfl rfl (Try.sizeOf33 _) ho_3 ?_)
  clear E a S; rintro a w E S
  refine WL_nil ?_
  refine T_n ?_
  refine WP_seq ?_
  refine WP_seq ?_
  refine WP_region ?_
  refine S_v E rfl (R_load E rfl (Try.isAgg33 _) (cell_blk (S.mem (.head _)))) rfl ?_
  clear E a; intro a E
  replace S := S.front1
  refine S_v E rfl (R_lenV E rfl T33 S.lenC) rfl ?_
  clear E a; intro a E
  refine S_v E rfl (R_loadM E rfl Try.isAgg3 S.imm (cellM_box hbx1)) rfl ?_
  clear E a; intro a E
  refine S_v E rfl (R_lss E rfl rfl) rfl ?_
  clear E a; intro a E
  refine WL_nil ?_
  refine T_n ?_
  refine WP_cond E rfl (fun hc_4 => ?_) (fun hc_4 => ?_)
  · replace hc_4 := of_decide_eq_true hc_4
    refine WP_seq ?_
    refine WP_region ?_
    refine S_v E rfl (R_assign E rfl) rfl ?_
    clear E a; intro a E
    refine WL_nil ?_
    refine T_n ?_
    refine WP_ret ?_
    refine T_r ?_
    replace S := S.front2
    replace S := S.front1
    replace S := S.front2
    replace S := S.front1
    replace S := S.re1 (l' := (chS n1 (pre ++ [x])).2) (by (first | rfl | (rw [ch_full (by omega)]; done) | (rw [ch_part (by omega)]; done)))
    replace S := S.front1
    have S0 := S; clear S; have S := St.pack [blk b (.cells #[v_2] 33), OwnI 3 v_2 (chS n1 (pre ++ [x])).2, cB] S0; clear S0
    exact F_ret1 E Try.results112 rfl ⟨_, rfl, M1, _, true, (Hp.le.refl _), rfl, ⟨_, _, rfl, J_eq hJ (by (first | rfl | (rw [ch_full (by omega)]; done) | (rw [ch_part (by omega)]; done)))⟩, S⟩
  · replace hc_4 := of_decide_eq_false hc_4
    refine WP_skip ?_
    refine T_n ?_
    refine WP_seq ?_
    refine WP_region ?_
    refine S_v E rfl (R_load E rfl (Try.isAgg33 _) (cell_blk (S.mem (.tail _ (.head _))))) rfl ?_
    clear E a; intro a E
    refine S_v E rfl (R_assign E rfl) rfl ?_
    clear E a; intro a E
    refine WL_nil ?_
    refine T_n ?_
    refine WP_seq ?_
    refine WP_region ?_
    refine S_v E rfl (R_loadM E rfl Try.isAgg3 S.imm (cellM_box hbx1)) rfl ?_
    clear E a; intro a E
    refine S_x (X_make0 (k := n1) E S rfl rfl rfl T33 rfl (by omega) (by omega) (by omega) ?_)
    clear E a S; rintro a w v_5 E S
    replace S := S.made0
    have ho_6 := S.oneI
    replace S := S.front2
    refine S_x0 (X_store E S rfl rfl (Try.sizeOf33 _) ho_6 ?_)
    clear E a S; rintro a w E S
    refine WL_nil ?_
    refine T_n ?_
    refine WP_seq ?_
    refine WP_region ?_
    refine S_v E rfl (R_loadM E rfl Try.isAgg122 S.imm (cellM_box hbx3)) rfl ?_
    clear E a; intro a E
    refine S_v E rfl (R_move E rfl) rfl ?_
    clear E a; intro a E
    replace S := S.front2
    have S0 := S; clear S
    obtain ⟨M_7, hM_7, hz_8, S⟩ := S0.freezeI (by (first | (simp only [List.length_append, List.length_cons, List.length_nil]; omega) | omega))
    clear S0
    replace hbx1 := hM_7.2 _ _ hbx1
    replace hbx3 := hM_7.2 _ _ hbx3
    replace hJ := hJM _ _ _ _ hM_7 hJ
    replace S := S.front2
    refine S_x (X_yield (x := ((chS n1 pre).2) ++ [x]) E S rfl rfl rfl hY hM_7 (by first | exact ch_tell (by assumption) (by omega) | exact List.prefix_refl _ | (rw [chL_some (by first | assumption | (intro h9; simp_all; done))]; exact List.prefix_refl _)) ⟨_, rfl, hz_8⟩ hJ ?_)
    clear E a S; rintro a w M_9 c_10 go_11 hM_9 hJ S E
    replace hbx1 := hM_9.2 _ _ hbx1
    replace hbx3 := hM_9.2 _ _ hbx3
    replace hz_8 := hz_8.le hM_9
    cases go_11
    · replace hJ : X ((chS n1 pre).1 ++ [((chS n1 pre).2) ++ [x]]) M_9 c_10 := hJ
      refine S_v E rfl (R_assign E rfl) rfl ?_
      clear E a; intro a E
      refine WL_nil ?_
      refine T_n ?_
      refine WP_ret ?_
      replace S := S.front2
      replace S := S.front2
      replace S := S.front1
      replace S := S.re1 (l' := ([] : List Int)) (by (first | rfl | (rw [ch_full (by omega)]; done) | (rw [ch_part (by omega)]; done)))
      replace S := S.front1
      have S0 := S; clear S; have S := St.pack [blk b (.cells #[v_5] 33), OwnI 3 v_5 ([] : List Int), c_10] S0; clear S0
      exact F_ret1 E Try.results112 rfl ⟨_, rfl, M_9, _, false, (hM_7.trans hM_9), rfl, ⟨_, _, rfl, J_eq hJ (by (first | rfl | (rw [ch_full (by omega)]; done) | (rw [ch_part (by omega)]; done)))⟩, S⟩
    · replace hJ : J ((chS n1 pre).1 ++ [((chS n1 pre).2) ++ [x]]) M_9 c_10 := hJ
      refine S_v E rfl (R_assign E rfl) rfl ?_
      clear E a; intro a E
      refine WL_nil ?_
      refine T_n ?_
      refine WP_ret ?_
      replace S := S.front2
      replace S := S.front2
      replace S := S.front1
      replace S := S.re1 (l' := (chS n1 (pre ++ [x])).2) (by (first | rfl | (rw [ch_full (by omega)]; done) | (rw [ch_part (by omega)]; done)))
      replace S := S.front1
      have S0 := S; clear S; have S := St.pack [blk b (.cells #[v_5] 33), OwnI 3 v_5 (chS n1 (pre ++ [x])).2, c_10] S0; clear S0
      exact F_ret1 E Try.results112 rfl ⟨_, rfl, M_9, _, true, (hM_7.trans hM_9), rfl, ⟨_, _, rfl, J_eq hJ (by (first | rfl | (rw [ch_full (by omega)]; done) | (rw [ch_part (by omega)]; done)))⟩, S⟩

set_option maxRecDepth 100000 in
set_option maxHeartbeats 4000000 in
theorem it_Buffer1 {M : Hp} {v0 : Value} {l0 : List Int} (h0 : SeqV Try.prog v0 M (RInt) l0) {n1 : Nat} (hn : 0 < n1) (hb1 : n1 ≤ 1000000) {bx1 bx2 : Nat} (hbx1 : M bx1 = some (.cells #[.int .i64 (n1 : Int)] 3)) (hbx2 : M bx2 = some (.cells #[v0] 94)) :
    SeqV Try.prog (.func (.func 111) #[] #[.pointer (some ⟨bx1, 0, none⟩), .pointer (some ⟨bx2, 0, none⟩)]) M (RSl 1 RInt) (chL n1 l0) := by
  refine SeqV_enter Try.func111 rfl Try.ntmps111 rfl Try.call111 ?_
  intro y J X a w M1 c H hJM hM1 hY hJ S E
  replace h0 := h0.le hM1
  replace hbx1 := hM1.2 _ _ hbx1
  replace hbx2 := hM1.2 _ _ hbx2
  have hcl := ch_lt hn l0
  refine WP_seq ?_
  refine WP_region ?_
  refine S_x (X_box (cs := #[y]) E S rfl rfl (cells_one hY.1) ?_)
  clear E a S; rintro a w b_1 E S
  obtain ⟨M_2, hM_2, hb_1, S⟩ := S.freezeB
  replace h0 := h0.le hM_2
  replace hbx1 := hM_2.2 _ _ hbx1
  replace hbx2 := hM_2.2 _ _ hbx2
  replace hJ := hJM _ _ _ _ hM_2 hJ
  refine WL_nil ?_
  refine T_n ?_
  refine WP_seq ?_
  refine WP_region ?_
  refine S_v E rfl (R_loadM E rfl Try.isAgg3 S.imm (cellM_box hbx1)) rfl ?_
  clear E a; intro a E
  refine S_x (X_make0 (k := n1) E S rfl rfl rfl T33 rfl (by omega) (by omega) (by omega) ?_)
  clear E a S; rintro a w v_3 E S
  replace S := S.made0
  refine S_x (X_alloc (cs := #[.slice none 0 0]) E S rfl Try.zeroValue33 rfl ?_)
  clear E a S; rintro a w b_4 E S
  replace S := S.front1
  have ho_5 := S.oneI
  replace S := S.front1
  refine S_x0 (X_store E S rfl rfl (Try.sizeOf33 _) ho_5 ?_)
  clear E a S; rintro a w E S
  refine WL_nil ?_
  refine T_n ?_
  refine WP_seq ?_
  refine WP_region ?_
  refine S_v E rfl (R_loadM E rfl Try.isAgg94 S.imm (cellM_box hbx2)) rfl ?_
  clear E a; intro a E
  refine S_v E rfl (R_makeFunc E rfl rfl) rfl ?_
  clear E a; intro a E
  replace S := S.front3
  replace S := S.front2
  replace S := S.front2
  replace S : St w M_2 (blk b_4 (.cells #[v_3] 33) :: OwnI 3 v_3 (chS n1 []).2 :: c :: _) := S
  have S0 := S; clear S; have S := St.pack [blk b_4 (.cells #[v_3] 33), OwnI 3 v_3 (chS n1 []).2, c] S0; clear S0
  refine S_x (X_seqW (J := bufJ 33 3 n1 b_4 J) (X := bufX 33 3 n1 b_4 X) E S rfl rfl rfl h0 (Hp.le.refl _) (bufJ_JM hJM) (it_Buffer11 hn hb1 hJM (hY.le hM_2) hbx1 hb_1) (Hp.le.refl _) ⟨_, _, rfl, hJ⟩ ?_)
  clear E a S; rintro a v_8 w M_6 c_7 hM_6 f_9 S E
  replace h0 := h0.le hM_6
  replace hbx1 := hM_6.2 _ _ hbx1
  replace hbx2 := hM_6.2 _ _ hbx2
  replace hb_1 := hM_6.2 _ _ hb_1
  rcases f_9 with ⟨uB, cB, rfl, f_9⟩ | ⟨pB, hpB, uB, cB, rfl, f_9⟩
  · replace S := S.unpack3
    refine WL_nil ?_
    refine T_n ?_
    refine WP_seq ?_
    refine WP_region ?_
    refine S_v E rfl (R_load E rfl (Try.isAgg33 _) (cell_blk (S.mem (.head _)))) rfl ?_
    clear E a; intro a E
    replace S := S.front1
    refine S_v E rfl (R_lenV E rfl T33 S.lenC) rfl ?_
    clear E a; intro a E
    refine S_v E rfl (R_gtr E rfl rfl) rfl ?_
    clear E a; intro a E
    refine WL_nil ?_
    refine T_n ?_
    refine WP_cond E rfl (fun hc_10 => ?_) (fun hc_10 => ?_)
    · replace hc_10 := of_decide_eq_true hc_10
      refine WP_region ?_
      refine S_v E rfl (R_loadM E rfl Try.isAgg122 S.imm (cellM_box hb_1)) rfl ?_
      clear E a; intro a E
      refine S_v E rfl (R_load E rfl (Try.isAgg33 _) (cell_blk (S.mem (.tail _ (.head _))))) rfl ?_
      clear E a; intro a E
      have S0 := S; clear S
      obtain ⟨M_11, hM_11, hz_12, S⟩ := S0.freezeI (by (first | (simp only [List.length_append, List.length_cons, List.length_nil]; omega) | omega))
      clear S0
      replace h0 := h0.le hM_11
      replace hbx1 := hM_11.2 _ _ hbx1
      replace hbx2 := hM_11.2 _ _ hbx2
      replace hb_1 := hM_11.2 _ _ hb_1
      replace f_9 := hJM _ _ _ _ hM_11 f_9
      replace S := S.front1
      refine S_x (X_yield (x := (chS n1 l0).2) E S rfl rfl rfl hY (hM_2.trans (hM_6.trans hM_11)) (by first | exact ch_tell (by assumption) (by omega) | exact List.prefix_refl _ | (rw [chL_some (by first | assumption | (intro h9; simp_all; done))]; exact List.prefix_refl _)) ⟨_, rfl, hz_12⟩ f_9 ?_)
      clear E a S; rintro a w M_13 c_14 go_15 hM_13 f_9 S E
      replace h0 := h0.le hM_13
      replace hbx1 := hM_13.2 _ _ hbx1
      replace hbx2 := hM_13.2 _ _ hbx2
      replace hb_1 := hM_13.2 _ _ hb_1
      replace hz_12 := hz_12.le hM_13
      cases go_15
      · replace f_9 : X ((chS n1 l0).1 ++ [(chS n1 l0).2]) M_13 c_14 := f_9
        refine WL_nil ?_
        refine F_nrm ?_
        replace S := S.front1
        replace S := S.drop
        replace S := S.front1
        exact F_retM0 E S Try.results111 (fun w S => ⟨_, rfl, M_13, _, (hM_2.trans (hM_6.trans (hM_11.trans hM_13))), .inr ⟨((chS n1 l0).1 ++ [(chS n1 l0).2]), (by first | assumption | (first | exact ch_tell (by assumption) (by omega) | exact List.prefix_refl _ | (rw [chL_some (by first | assumption | (intro h9; simp_all; done))]; exact List.prefix_refl _) | exact ch_pre (by assumption))), f_9⟩, S⟩)
      · replace f_9 : J ((chS n1 l0).1 ++ [(chS n1 l0).2]) M_13 c_14 := f_9
        refine WL_nil ?_
        refine F_nrm ?_
        replace S := S.front1
        replace S := S.drop
        replace S := S.front1
        have hpre : ((chS n1 l0).1 ++ [(chS n1 l0).2]) = chL n1 l0 := by (first | exact (chL_some (by first | assumption | (intro h9; simp_all; done))).symm | exact (chL_none (by first | assumption | (simp_all; done))).symm)
        rw [hpre] at f_9
        exact F_retM0 E S Try.results111 (fun w S => ⟨_, rfl, M_13, _, (hM_2.trans (hM_6.trans (hM_11.trans hM_13))), .inl f_9, S⟩)
    · replace hc_10 := of_decide_eq_false hc_10
      refine WP_skip ?_
      refine F_nrm ?_
      replace S := S.drop
      replace S := S.drop
      replace S := S.front1
      have hpre : (chS n1 l0).1 = chL n1 l0 := by (first | exact (chL_some (by first | assumption | (intro h9; simp_all; done))).symm | exact (chL_none (by first | assumption | (simp_all; done))).symm)
      rw [hpre] at f_9
      exact F_retM0 E S Try.results111 (fun w S => ⟨_, rfl, M_6, _, (hM_2.trans hM_6), .inl f_9, S⟩)
  · replace S := S.unpack3
    refine WL_nil ?_
    refine T_n ?_
    refine WP_seq ?_
    refine WP_region ?_
    refine S_v E rfl (R_load E rfl (Try.isAgg33 _) (cell_blk (S.mem (.head _)))) rfl ?_
    clear E a; intro a E
    replace S := S.front1
    refine S_v E rfl (R_lenV E rfl T33 S.lenC) rfl ?_
    clear E a; intro a E
    refine S_v E rfl (R_gtr E rfl rfl) rfl ?_
    clear E a; intro a E
    refine WL_nil ?_
    refine T_n ?_
    have hc_16 : (decide (0 < (((([] : List Int)).length : Nat) : Int))) = false := by (apply decide_eq_false; simp)
    refine WP_condF E rfl hc_16 ?_
    refine WP_skip ?_
    refine F_nrm ?_
    replace S := S.drop
    replace S := S.drop
    replace S := S.front1
    exact F_retM0 E S Try.results111 (fun w S => ⟨_, rfl, M_6, _, (hM_2.trans hM_6), .inr ⟨(chS n1 pB).1, (by first | assumption | (first | exact ch_tell (by assumption) (by omega) | exact List.prefix_refl _ | (rw [chL_some (by first | assumption | (intro h9; simp_all; done))]; exact List.prefix_refl _) | exact ch_pre (by assumption))), f_9⟩, S⟩)

set_option maxRecDepth 100000 in
set_option maxHeartbeats 4000000 in
theorem it_Buffer {M : Hp} {v0 : Value} {l0 : List Int} (h0 : SeqV Try.prog v0 M (RInt) l0) {n1 : Nat} (hn : 0 < n1) (hb1 : n1 ≤ 1000000) :
    Pu Try.prog (.func (.func 73) #[] #[]) M [v0, .int .i64 ((n1 : Nat) : Int)] (fun r M' => SeqV Try.prog r M' (RSl 1 RInt) (chL n1 l0)) := by
  refine Pu_enter Try.func73 rfl Try.ntmps73 rfl Try.call73 ?_
  intro a w M1 H hM1 S E
  replace h0 := h0.le hM1
  refine WP_seq ?_
  refine WP_region ?_
  refine S_x (X_box (cs := #[v0]) E S rfl rfl (cells_one h0.1) ?_)
  clear E a S; rintro a w b_1 E S
  obtain ⟨M_2, hM_2, hb_1, S⟩ := S.freezeB
  replace h0 := h0.le hM_2
  refine S_x (X_box (cs := #[.int .i64 ((n1 : Nat) : Int)]) E S rfl rfl rfl ?_)
  clear E a S; rintro a w b_3 E S
  obtain ⟨M_4, hM_4, hb_3, S⟩ := S.freezeB
  replace h0 := h0.le hM_4
  replace hb_1 := hM_4.2 _ _ hb_1
  refine S_v E rfl (R_assign E rfl) rfl ?_
  clear E a; intro a E
  refine WL_nil ?_
  refine T_n ?_
  refine WP_seq ?_
  refine WP_region ?_
  refine S_v E rfl (R_makeFunc E rfl rfl) rfl ?_
  clear E a; intro a E
  refine S_v E rfl (R_assign E rfl) rfl ?_
  clear E a; intro a E
  refine WL_nil ?_
  refine T_n ?_
  refine WP_ret ?_
  exact F_ret1 E Try.results73 rfl ⟨_, rfl, M_4, (hM_2.trans hM_4), (SeqV_eq (it_Buffer1 (n1 := n1) h0 (by omega) (by omega) hb_3 hb_1) (by ((try clear S); (try clear E); first | rfl | (simp; done) | (simp_all; done) | grind [List.take_add_one]))), S⟩

set_option maxRecDepth 100000 in
set_option maxHeartbeats 4000000 in
theorem impl_BufferSeq {M : Hp} {v0 : Value} {l0 : List Int} (h0 : RdI M v0 l0){n1 : Nat} (hn : 0 < n1) (hb1 : n1 ≤ 1000000) (hb : l0.length ≤ 1000000) :
    Pu Try.prog (.func (.func 24) #[] #[]) M [v0, .int .i64 ((n1 : Nat) : Int)] (fun r M' => RdII M' r (chL n1 l0)) := by
  refine Pu_enter Try.func24 rfl Try.ntmps24 rfl Try.call24 ?_
  intro a w M1 H hM1 S E
  replace h0 := h0.le hM1
  have b0 := h0.bound
  refine WP_seq ?_
  refine WP_region ?_
  refine S_v E rfl (R_assign E rfl) rfl ?_
  clear E a; intro a E
  refine WL_nil ?_
  refine T_n ?_
  refine WP_seq ?_
  refine WP_region ?_
  refine S_v E rfl (R_move E rfl) rfl ?_
  clear E a; intro a E
  refine S_x (X_pu E S rfl rfl rfl (slices_Values h0) (Hp.le.refl _) ?_)
  clear E a S; rintro a v_2 w M_1 hM_1 hv_2 S E
  replace h0 := h0.le hM_1
  refine S_v E rfl (R_move E rfl) rfl ?_
  clear E a; intro a E
  refine S_x (X_pu E S rfl rfl rfl (it_Buffer hv_2 (by first | omega | (simp; done) | (simp; omega)) (by first | omega | (simp; done) | (simp; omega))) (Hp.le.refl _) ?_)
  clear E a S; rintro a v_4 w M_3 hM_3 hv_4 S E
  replace h0 := h0.le hM_3
  replace hv_2 := hv_2.le hM_3
  refine S_x (X_pu E S rfl rfl rfl (slices_CollectL hv_4 (by first | exact Nat.le_trans (chL_len (by omega) _) (by omega) | (first | omega | (simp; omega) | (simp; done) | (simp_all; omega) | grind))) (Hp.le.refl _) ?_)
  clear E a S; rintro a v_6 w M_5 hM_5 hv_6 S E
  replace h0 := h0.le hM_5
  replace hv_2 := hv_2.le hM_5
  replace hv_4 := hv_4.le hM_5
  refine S_v E rfl (R_assign E rfl) rfl ?_
  clear E a; intro a E
  refine WL_nil ?_
  refine T_n ?_
  refine WP_ret ?_
  exact F_ret1 E Try.results24 rfl ⟨_, rfl, M_5, (hM_1.trans (hM_3.trans hM_5)), hv_6, S⟩

set_option maxRecDepth 100000 in
set_option maxHeartbeats 4000000 in
theorem lo_Flatten {M : Hp} {v0 : Value} {l0 : List (List Int)} (h0 : RdII M v0 l0) (hb : total l0 ≤ 1000000000) :
    Pu Try.prog (.func (.func 74) #[] #[]) M [v0] (fun r M' => RdI M' r ((l0).flatten)) := by
  refine Pu_enter Try.func74 rfl Try.ntmps74 rfl Try.call74 ?_
  intro a w M1 H hM1 S E
  replace h0 := h0.le hM1
  have b0 := h0.bound
  refine WP_seq ?_
  refine WP_region ?_
  refine S_v E rfl (R_assign E rfl) rfl ?_
  clear E a; intro a E
  refine WL_nil ?_
  refine T_n ?_
  refine WP_seq ?_
  refine WP_region ?_
  refine S_v E rfl (R_assign E rfl) rfl ?_
  clear E a; intro a E
  refine WL_nil ?_
  refine T_n ?_
  refine WP_seq ?_
  refine WP_seq ?_
  refine WP_region ?_
  refine S_v E rfl (R_move E rfl) rfl ?_
  clear E a; intro a E
  refine S_v E rfl (R_lenV E rfl T34 h0.len) rfl ?_
  clear E a; intro a E
  refine S_v E rfl (R_move E rfl) rfl ?_
  clear E a; intro a E
  refine WL_nil ?_
  refine T_n ?_
  refine WP_block ?_
  refine WP_loop (γ := Nat) (fun (k : Nat) a w => ∃ (M_1 : Hp), Hp.le M1 M_1 ∧ St w M_1 (H) ∧ Env a 35 [] [(0, v0), (3, .int .i64 ((total (l0.take k) : Nat) : Int)), (8, .int .i64 (((l0).length : Nat) : Int)), (9, .int .i64 ((k : Nat) : Int))] ∧ (k ≤ (l0).length)) (fun k => ((l0).length) - k) 0 ⟨M1, Hp.le.refl _, S, E.keep ⟨rfl, look_nat (i := 0) rfl (by ((try clear S); (try clear E); first | assumption | omega | rfl | (simp; done) | (simp_all; done) | (simp [List.take_add_one, *]; done) | grind [List.take_add_one])), rfl, rfl, trivial⟩, by ((try clear S); (try clear E); first | assumption | omega | rfl | (simp; done) | (simp_all; done) | (simp [List.take_add_one, *]; done) | grind [List.take_add_one])⟩ ?_
  try clear E
  try clear S
  try clear a
  try clear w
  rintro k a w ⟨M_1, hM_1, S, E, hL0_0⟩
  replace h0 := h0.le hM_1
  have ht := total_take_le l0 k
  refine WP_seq ?_
  refine WP_region ?_
  refine S_v E rfl (R_lss E rfl rfl) rfl ?_
  clear E a; intro a E
  refine WL_nil ?_
  refine T_n ?_
  refine WP_seq ?_
  refine WP_cond E rfl (fun hc_2 => ?_) (fun hc_2 => ?_)
  · replace hc_2 := of_decide_eq_true hc_2
    refine WP_skip ?_
    refine T_n ?_
    refine WP_seq ?_
    refine WP_block ?_
    refine WP_seq ?_
    refine WP_region ?_
    refine S_v E rfl (R_move E rfl) rfl ?_
    clear E a; intro a E
    refine S_v E rfl (R_assign E rfl) rfl ?_
    clear E a; intro a E
    refine WL_nil ?_
    refine T_n ?_
    refine WP_region ?_
    refine S_v E rfl (R_move E rfl) rfl ?_
    clear E a; intro a E
    refine S_v E rfl (R_move E rfl) rfl ?_
    clear E a; intro a E
    refine S_v E rfl (R_move E rfl) rfl ?_
    clear E a; intro a E
    obtain ⟨x_3, hx_3⟩ : ∃ x, (l0)[k]? = some x := ⟨_, List.getElem?_eq_getElem (by first | omega | (simp; done) | (simp; omega) | (simp_all; omega))⟩
    obtain ⟨p_4, u_5, hp_4, qp_4, hu_5⟩ := h0.at hx_3
    have bu_5 := hu_5.bound
    refine S_v E rfl (R_idx E rfl rfl T34 hp_4 rfl) rfl ?_
    clear E a; intro a E
    refine S_v E rfl (R_loadM E rfl Try.isAgg33 S.imm qp_4) rfl ?_
    clear E a; intro a E
    refine S_v E rfl (R_lenV E rfl T33 hu_5.len) rfl ?_
    clear E a; intro a E
    refine S_v E rfl (R_addx (m := ((total (l0.take k) + (x_3).length : Nat) : Int)) E rfl rfl (by first | omega | (have ht2 := total_take_le l0 (k+1); rw [total_succ (by assumption)] at ht2; omega)) (by first | omega | (have ht2 := total_take_le l0 (k+1); rw [total_succ (by assumption)] at ht2; omega))) rfl ?_
    clear E a; intro a E
    refine S_v E rfl (R_assign E rfl) rfl ?_
    clear E a; intro a E
    refine WL_nil ?_
    refine B_n ?_
    refine T_n ?_
    refine WP_region ?_
    refine S_v E rfl (R_addx (m := ((k + 1 : Nat) : Int)) E rfl rfl (by omega) (by omega)) rfl ?_
    clear E a; intro a E
    refine S_v E rfl (R_move E rfl) rfl ?_
    clear E a; intro a E
    refine WL_nil ?_
    refine T_n ?_
    exact ⟨k + 1, ⟨M_1, hM_1, S, E.keep ⟨rfl, look_nat (i := total (l0.take k) + (x_3).length) rfl (by (rw [total_succ (by assumption)])), rfl, rfl, trivial⟩, by ((try clear S); (try clear E); first | assumption | omega | rfl | (simp; done) | (simp_all; done) | (simp [List.take_add_one, *]; done) | grind [List.take_add_one])⟩, by omega⟩
  · replace hc_2 := of_decide_eq_false hc_2
    refine WP_exit ?_
    refine T_x ?_
    refine T_x ?_
    refine B_x ?_
    refine T_n ?_
    refine WP_seq ?_
    refine WP_region ?_
    refine S_v E rfl (R_move E rfl) rfl ?_
    clear E a; intro a E
    refine S_x (X_make0 (k := total (l0.take k)) E S rfl rfl rfl T33 rfl (by omega) (by (have ht := total_take_le l0 k; omega)) (by (have ht := total_take_le l0 k; omega)) ?_)
    clear E a S; rintro a w v_6 E S
    replace S := S.made0
    refine S_v E rfl (R_assign E rfl) rfl ?_
    clear E a; intro a E
    refine WL_nil ?_
    refine T_n ?_
    refine WP_seq ?_
    refine WP_seq ?_
    refine WP_region ?_
    refine S_v E rfl (R_move E rfl) rfl ?_
    clear E a; intro a E
    refine S_v E rfl (R_lenV E rfl T34 h0.len) rfl ?_
    clear E a; intro a E
    refine S_v E rfl (R_move E rfl) rfl ?_
    clear E a; intro a E
    refine WL_nil ?_
    refine T_n ?_
    refine WP_block ?_
    replace S := S.re1 (l' := (l0.take 0).flatten) (by first | rfl | (rw [flatten_succ (by assumption)]; done))
    refine WP_loop (γ := Nat) (fun (k : Nat) a w => ∃ (M_7 : Hp) (u5 : Value), Hp.le M_1 M_7 ∧ St w M_7 (OwnI 3 u5 ((l0.take k).flatten) :: H) ∧ Env a 35 [] [(0, v0), (5, u5), (23, .int .i64 (((l0).length : Nat) : Int)), (24, .int .i64 ((k : Nat) : Int))] ∧ (k ≤ (l0).length)) (fun k => ((l0).length) - k) 0 ⟨M_1, _, Hp.le.refl _, S, E.keep ⟨rfl, rfl, rfl, rfl, trivial⟩, by ((try clear S); (try clear E); first | assumption | omega | rfl | (simp; done) | (simp_all; done) | (simp [List.take_add_one, *]; done) | grind [List.take_add_one])⟩ ?_
    try clear E
    try clear S
    try clear a
    try clear w
    rintro k a w ⟨M_7, u5, hM_7, S, E, hL1_0⟩
    replace h0 := h0.le hM_7
    have ht := total_take_le l0 k; have hf := flatten_len (l0.take k)
    refine WP_seq ?_
    refine WP_region ?_
    refine S_v E rfl (R_lss E rfl rfl) rfl ?_
    clear E a; intro a E
    refine WL_nil ?_
    refine T_n ?_
    refine WP_seq ?_
    refine WP_cond E rfl (fun hc_8 => ?_) (fun hc_8 => ?_)
    · replace hc_8 := of_decide_eq_true hc_8
      refine WP_skip ?_
      refine T_n ?_
      refine WP_seq ?_
      refine WP_block ?_
      refine WP_seq ?_
      refine WP_region ?_
      refine S_v E rfl (R_move E rfl) rfl ?_
      clear E a; intro a E
      refine S_v E rfl (R_assign E rfl) rfl ?_
      clear E a; intro a E
      refine WL_nil ?_
      refine T_n ?_
      refine WP_region ?_
      refine S_v E rfl (R_move E rfl) rfl ?_
      clear E a; intro a E
      refine S_v E rfl (R_move E rfl) rfl ?_
      clear E a; intro a E
      refine S_v E rfl (R_move E rfl) rfl ?_
      clear E a; intro a E
      obtain ⟨x_9, hx_9⟩ : ∃ x, (l0)[k]? = some x := ⟨_, List.getElem?_eq_getElem (by first | omega | (simp; done) | (simp; omega) | (simp_all; omega))⟩
      obtain ⟨p_10, u_11, hp_10, qp_10, hu_11⟩ := h0.at hx_9
      have bu_11 := hu_11.bound
      refine S_v E rfl (R_idx E rfl rfl T34 hp_10 rfl) rfl ?_
      clear E a; intro a E
      refine S_v E rfl (R_loadM E rfl Try.isAgg33 S.imm qp_10) rfl ?_
      clear E a; intro a E
      refine S_x (X_appendI (xs := (l0.take k).flatten) E S rfl rfl rfl T33 hu_11 (by (have ht2 := total_take_le l0 (k+1); rw [total_succ (by assumption)] at ht2; omega)) ?_)
      clear E a S; rintro a w v_12 E S
      refine S_v E rfl (R_assign E rfl) rfl ?_
      clear E a; intro a E
      refine WL_nil ?_
      refine B_n ?_
      refine T_n ?_
      refine WP_region ?_
      refine S_v E rfl (R_addx (m := ((k + 1 : Nat) : Int)) E rfl rfl (by omega) (by omega)) rfl ?_
      clear E a; intro a E
      refine S_v E rfl (R_move E rfl) rfl ?_
      clear E a; intro a E
      refine WL_nil ?_
      refine T_n ?_
      replace S := S.re1 (l' := (l0.take (k + 1)).flatten) (by first | rfl | (rw [flatten_succ (by assumption)]; done))
      exact ⟨k + 1, ⟨M_7, _, hM_7, S, E.keep ⟨rfl, rfl, rfl, rfl, trivial⟩, by ((try clear S); (try clear E); first | assumption | omega | rfl | (simp; done) | (simp_all; done) | (simp [List.take_add_one, *]; done) | grind [List.take_add_one])⟩, by omega⟩
    · replace hc_8 := of_decide_eq_false hc_8
      refine WP_exit ?_
      refine T_x ?_
      refine T_x ?_
      refine B_x ?_
      refine T_n ?_
      refine WP_seq ?_
      refine WP_region ?_
      refine S_v E rfl (R_move E rfl) rfl ?_
      clear E a; intro a E
      refine S_v E rfl (R_assign E rfl) rfl ?_
      clear E a; intro a E
      refine WL_nil ?_
      refine T_n ?_
      refine WP_ret ?_
      have S0 := S; clear S
      obtain ⟨M_13, hM_13, hz_14, S⟩ := S0.freezeI (by (have ht := total_take_le l0 k; rw [flatten_len]; omega))
      clear S0
      replace h0 := h0.le hM_13
      exact F_ret1 E Try.results74 rfl ⟨_, rfl, M_13, (hM_1.trans (hM_7.trans hM_13)), (by rw [show ((l0).flatten) = ((l0.take k).flatten) from by (rw [List.take_of_length_le (by omega)])]; exact hz_14), S⟩

set_option maxRecDepth 100000 in
set_option maxHeartbeats 4000000 in
theorem impl_Flatten {M : Hp} {v0 : Value} {l0 : List (List Int)} (h0 : RdII M v0 l0) (hb : total l0 ≤ 1000000000) :
    Pu Try.prog (.func (.func 25) #[] #[]) M [v0] (fun r M' => RdI M' r ((l0).flatten)) := by
  refine Pu_enter Try.func25 rfl Try.ntmps25 rfl Try.call25 ?_
  intro a w M1 H hM1 S E
  replace h0 := h0.le hM1
  have b0 := h0.bound
  refine WP_seq ?_
  refine WP_region ?_
  refine S_v E rfl (R_assign E rfl) rfl ?_
  clear E a; intro a E
  refine WL_nil ?_
  refine T_n ?_
  refine WP_seq ?_
  refine WP_region ?_
  refine S_v E rfl (R_move E rfl) rfl ?_
  clear E a; intro a E
  refine S_x (X_pu E S rfl rfl rfl (lo_Flatten h0 (by first | (rw [hcq, ← flatten_len, chL_flat]; omega) | (rw [hcq]; omega) | first | omega | decide | (simp only [List.nil_append]; omega) | (simp; omega))) (Hp.le.refl _) ?_)
  clear E a S; rintro a v_2 w M_1 hM_1 hv_2 S E
  replace h0 := h0.le hM_1
  refine S_v E rfl (R_assign E rfl) rfl ?_
  clear E a; intro a E
  refine WL_nil ?_
  refine T_n ?_
  refine WP_ret ?_
  exact F_ret1 E Try.results25 rfl ⟨_, rfl, M_1, hM_1, hv_2, S⟩

set_option maxRecDepth 100000 in
set_option maxHeartbeats 4000000 in
theorem impl_seqs {M : Hp} {v0 : Value} {l0 : List (List Int)} (h0 : RdII M v0 l0) (hb : l0.length ≤ 1000000000) :
    Pu Try.prog (.func (.func 77) #[] #[]) M [v0] (fun r M' => RdS 1 (RSq Try.prog RInt) M' r l0) := by
  refine Pu_enter Try.func77 rfl Try.ntmps77 rfl Try.call77 ?_
  intro a w M1 H hM1 S E
  replace h0 := h0.le hM1
  have b0 := h0.bound
  refine WP_seq ?_
  refine WP_region ?_
  refine S_v E rfl (R_assign E rfl) rfl ?_
  clear E a; intro a E
  refine WL_nil ?_
  refine T_n ?_
  refine WP_seq ?_
  refine WP_region ?_
  refine S_v E rfl (R_assign E rfl) rfl ?_
  clear E a; intro a E
  refine WL_nil ?_
  refine T_n ?_
  refine WP_seq ?_
  refine WP_seq ?_
  refine WP_region ?_
  refine S_v E rfl (R_move E rfl) rfl ?_
  clear E a; intro a E
  refine S_v E rfl (R_lenV E rfl T34 h0.len) rfl ?_
  clear E a; intro a E
  refine S_v E rfl (R_move E rfl) rfl ?_
  clear E a; intro a E
  refine WL_nil ?_
  refine T_n ?_
  refine WP_block ?_
  replace S : St w M1 (OwnC 94 1 (.slice none 0 0) ([] : List (List Int)).length [] :: _) := S.ownNil
  have hr_2 : RowsR (RSq Try.prog RInt) 1 M1 ([] : List (List Int)) [] := RowsR.nil
  have hre : ([] : List (List Int)) = l0.take 0 := by ((try clear S); (try clear E); first | assumption | omega | rfl | (simp; done) | (simp_all; done) | (simp [List.take_add_one, *]; done) | grind [List.take_add_one])
  replace S := S.reR hre
  replace hr_2 := hr_2.eq hre
  clear hre
  refine WP_loop (γ := Nat) (fun (k : Nat) a w => ∃ (M_3 : Hp) (u3 : Value) (xs3 : List Value), Hp.le M1 M_3 ∧ St w M_3 (OwnC 94 1 u3 (l0.take k).length xs3 :: H) ∧ Env a 19 [] [(3, u3), (6, v0), (7, .int .i64 (((l0).length : Nat) : Int)), (8, .int .i64 ((k : Nat) : Int))] ∧ (k ≤ (l0).length) ∧ RowsR (RSq Try.prog RInt) 1 M_3 (l0.take k) xs3) (fun k => ((l0).length) - k) 0 ⟨M1, _, _, Hp.le.refl _, S, E.keep ⟨rfl, rfl, rfl, rfl, trivial⟩, by ((try clear S); (try clear E); first | assumption | omega | rfl | (simp; done) | (simp_all; done) | (simp [List.take_add_one, *]; done) | grind [List.take_add_one]), hr_2⟩ ?_
  try clear E
  try clear S
  try clear a
  try clear w
  rintro k a w ⟨M_3, u3, xs3, hM_3, S, E, hL0_0, hr3⟩
  replace h0 := h0.le hM_3
  refine WP_seq ?_
  refine WP_region ?_
  refine S_v E rfl (R_lss E rfl rfl) rfl ?_
  clear E a; intro a E
  refine WL_nil ?_
  refine T_n ?_
  refine WP_seq ?_
  refine WP_cond E rfl (fun hc_4 => ?_) (fun hc_4 => ?_)
  · replace hc_4 := of_decide_eq_true hc_4
    refine WP_skip ?_
    refine T_n ?_
    refine WP_seq ?_
    refine WP_block ?_
    refine WP_seq ?_
    refine WP_region ?_
    obtain ⟨x_5, hx_5⟩ : ∃ x, (l0)[k]? = some x := ⟨_, List.getElem?_eq_getElem (by first | omega | (simp; done) | (simp; omega) | (simp_all; omega))⟩
    obtain ⟨p_6, u_7, hp_6, qp_6, hu_7⟩ := h0.at hx_5
    have bu_7 := hu_7.bound
    refine S_v E rfl (R_idx E rfl rfl T34 hp_6 rfl) rfl ?_
    clear E a; intro a E
    refine S_v E rfl (R_loadM E rfl Try.isAgg33 S.imm qp_6) rfl ?_
    clear E a; intro a E
    refine S_v E rfl (R_assign E rfl) rfl ?_
    clear E a; intro a E
    refine WL_nil ?_
    refine T_n ?_
    refine WP_region ?_
    refine S_v E rfl (R_move E rfl) rfl ?_
    clear E a; intro a E
    refine S_v E rfl (R_move E rfl) rfl ?_
    clear E a; intro a E
    refine S_x (X_pu E S rfl rfl rfl (slices_Values hu_7) (Hp.le.refl _) ?_)
    clear E a S; rintro a v_9 w M_8 hM_8 hv_9 S E
    replace h0 := h0.le hM_8
    replace hr3 := hr3.le RSq_mono hM_8
    replace hu_7 := hu_7.le hM_8
    refine S_x (X_buildM (R := (RSq Try.prog RInt)) (vs := [v_9]) (xs := [x_5]) RSq_mono E S rfl T98 rfl rfl rfl (by intro u hu; simp only [List.mem_cons, List.not_mem_nil, or_false] at hu; rcases hu with rfl <;> first | exact hv_9.1) rfl (rowsC (R := (RSq Try.prog RInt)) ⟨_, rfl, hv_9⟩ rowsN) ?_)
    clear E a S; rintro a v_10 w M_11 hM_11 hv_10 S E
    replace h0 := h0.le hM_11
    replace hr3 := hr3.le RSq_mono hM_11
    replace hu_7 := hu_7.le hM_11
    replace hv_9 := hv_9.le hM_11
    refine S_x (X_appendR (R := (RSq Try.prog RInt)) (zs := l0.take k) (ys := [x_5]) E S hr3 rfl rfl rfl T98 hv_10 one_RSq (by first | omega | (simp; done) | (simp; omega) | (simp_all; omega)) (by first | omega | (simp; done) | (simp; omega) | (simp_all; omega)) ?_)
    clear E a S; rintro a w v_12 xs_13 E hr_14 S
    refine S_v E rfl (R_assign E rfl) rfl ?_
    clear E a; intro a E
    refine WL_nil ?_
    refine B_n ?_
    refine T_n ?_
    refine WP_region ?_
    refine S_v E rfl (R_addx (m := ((k + 1 : Nat) : Int)) E rfl rfl (by omega) (by omega)) rfl ?_
    clear E a; intro a E
    refine S_v E rfl (R_move E rfl) rfl ?_
    clear E a; intro a E
    refine WL_nil ?_
    refine T_n ?_
    have hre : (l0.take k) ++ [x_5] = l0.take (k + 1) := by ((try clear S); (try clear E); first | assumption | omega | rfl | (simp; done) | (simp_all; done) | (simp [List.take_add_one, *]; done) | grind [List.take_add_one])
    replace S := S.reR hre
    replace hr_14 := hr_14.eq hre
    clear hre
    exact ⟨k + 1, ⟨M_11, _, _, (hM_3.trans (hM_8.trans hM_11)), S, E.keep ⟨rfl, rfl, rfl, rfl, trivial⟩, by ((try clear S); (try clear E); first | assumption | omega | rfl | (simp; done) | (simp_all; done) | (simp [List.take_add_one, *]; done) | grind [List.take_add_one]), hr_14⟩, by omega⟩
  · replace hc_4 := of_decide_eq_false hc_4
    refine WP_exit ?_
    refine T_x ?_
    refine T_x ?_
    refine B_x ?_
    refine T_n ?_
    refine WP_seq ?_
    refine WP_region ?_
    refine S_v E rfl (R_move E rfl) rfl ?_
    clear E a; intro a E
    refine S_v E rfl (R_assign E rfl) rfl ?_
    clear E a; intro a E
    refine WL_nil ?_
    refine T_n ?_
    refine WP_ret ?_
    have S0 := S; clear S
    obtain ⟨M_15, hM_15, hz_16, S⟩ := S0.freezeR hr3 RSq_mono (by (first | omega | (simp; omega) | (simp; done) | (simp_all; omega) | grind))
    clear S0
    replace h0 := h0.le hM_15
    exact F_ret1 E Try.results77 rfl ⟨_, rfl, M_15, (hM_3.trans hM_15), (by rw [show l0 = (l0.take k) from by (rw [List.take_of_length_le (by omega)])]; exact hz_16), S⟩

set_option maxRecDepth 100000 in
set_option maxHeartbeats 4000000 in
theorem it_Flatten1 {M : Hp} {v0 : Value} {l0 : List (List Int)} (h0 : RdS 1 (RSq Try.prog RInt) M v0 l0){bx1 : Nat} (hbx1 : M bx1 = some (.cells #[v0] 98)) :
    SeqV Try.prog (.func (.func 114) #[] #[.pointer (some ⟨bx1, 0, none⟩)]) M (RInt) ((l0).flatten) := by
  refine SeqV_enter Try.func114 rfl Try.ntmps114 rfl Try.call114 ?_
  intro y J X a w M1 c H hJM hM1 hY hJ S E
  replace hbx1 := hM1.2 _ _ hbx1
  replace h0 := h0.le RSq_mono hM1
  have b0 := h0.bound
  refine WP_seq ?_
  refine WP_region ?_
  refine S_x (X_box (cs := #[y]) E S rfl rfl (cells_one hY.1) ?_)
  clear E a S; rintro a w b_1 E S
  obtain ⟨M_2, hM_2, hb_1, S⟩ := S.freezeB
  replace hbx1 := hM_2.2 _ _ hbx1
  replace h0 := h0.le RSq_mono hM_2
  replace hJ := hJM _ _ _ _ hM_2 hJ
  refine WL_nil ?_
  refine T_n ?_
  refine WP_seq ?_
  refine WP_region ?_
  refine S_v E rfl (R_loadM E rfl Try.isAgg98 S.imm (cellM_box hbx1)) rfl ?_
  clear E a; intro a E
  refine S_v E rfl (R_lenV E rfl T98 h0.len) rfl ?_
  clear E a; intro a E
  refine S_v E rfl (R_move E rfl) rfl ?_
  clear E a; intro a E
  refine WL_nil ?_
  refine T_n ?_
  refine WP_block ?_
  refine WP_loop (γ := Nat) (fun (k : Nat) a w => ∃ (M_3 : Hp) (cL0 : HProp) (Ds0 : List Nat), Hp.le M_2 M_3 ∧ St w M_3 (mks Ds0 :: cL0 :: H) ∧ Env a 19 (Ds0.map mk) [(2, .pointer (some ⟨b_1, 0, none⟩)), (6, v0), (7, .int .i64 (((l0).length : Nat) : Int)), (8, .int .i64 ((k : Nat) : Int))] ∧ (k ≤ (l0).length) ∧ J ((l0.take k).flatten) M_3 cL0) (fun k => ((l0).length) - k) 0 ⟨M_2, _, _, Hp.le.refl _, S, E.keep ⟨rfl, rfl, rfl, rfl, trivial⟩, by ((try clear S); (try clear E); first | assumption | omega | rfl | (simp; done) | (simp_all; done) | (simp [List.take_add_one, *]; done) | grind [List.take_add_one]), J_eq hJ (by ((try clear S); (try clear E); first | assumption | omega | rfl | (simp; done) | (simp_all; done) | (simp [List.take_add_one, *]; done) | grind [List.take_add_one]))⟩ ?_
  try clear E
  try clear S
  try clear a
  try clear w
  rintro k a w ⟨M_3, cL0, Ds0, hM_3, S, E, hL0_0, hJ⟩
  replace hbx1 := hM_3.2 _ _ hbx1
  replace h0 := h0.le RSq_mono hM_3
  replace hb_1 := hM_3.2 _ _ hb_1
  refine WP_seq ?_
  refine WP_region ?_
  refine S_v E rfl (R_lss E rfl rfl) rfl ?_
  clear E a; intro a E
  refine WL_nil ?_
  refine T_n ?_
  refine WP_seq ?_
  refine WP_cond E rfl (fun hc_4 => ?_) (fun hc_4 => ?_)
  · replace hc_4 := of_decide_eq_true hc_4
    refine WP_skip ?_
    refine T_n ?_
    refine WP_seq ?_
    refine WP_block ?_
    refine WP_seq ?_
    refine WP_region ?_
    obtain ⟨x_5, hx_5⟩ : ∃ x, (l0)[k]? = some x := ⟨_, List.getElem?_eq_getElem (by first | omega | (simp; done) | (simp; omega) | (simp_all; omega))⟩
    obtain ⟨p_6, u_7, hp_6, qp_6, hu_7⟩ := RdQ.at h0 hx_5
    refine S_v E rfl (R_idx E rfl rfl T98 hp_6 rfl) rfl ?_
    clear E a; intro a E
    refine S_v E rfl (R_loadM E rfl Try.isAgg94 S.imm qp_6) rfl ?_
    clear E a; intro a E
    refine S_v E rfl (R_assign E rfl) rfl ?_
    clear E a; intro a E
    refine WL_nil ?_
    refine T_n ?_
    refine WP_seq ?_
    refine WP_region ?_
    refine S_v E rfl (R_move E rfl) rfl ?_
    clear E a; intro a E
    refine WL_nil ?_
    refine T_n ?_
    refine WP_block ?_
    replace S := S.front1
    replace E := E.keep (l' := [(2, .pointer (some ⟨b_1, 0, none⟩)), (6, v0), (7, .int .i64 (((l0).length : Nat) : Int)), (8, .int .i64 ((k : Nat) : Int)), (12, u_7)]) ⟨rfl, rfl, rfl, rfl, rfl, trivial⟩
    have S0 := S; clear S; have S := St.pack [cL0] S0; clear S0
    refine WP_range (RV := RInt) (l := x_5) (fun pre M c => ∃ (c1 : HProp), c = bigs [c1] ∧ (J ((l0.take k).flatten ++ pre) M c1)) (fun cd pre M c => cd = .ret ∧ ∃ z, z <+: ((l0).flatten) ∧ X z M c) E S rfl hu_7 (Hp.le.refl _) (fun _ _ _ h => by rw [h]; rfl) (by decide) (by rintro _ M M' c hM ⟨c1, rfl, f0⟩; exact ⟨_, rfl, hJM _ _ _ _ hM f0⟩) ⟨_, rfl, J_eq hJ (by ((try clear S); (try clear E); first | assumption | omega | rfl | (simp; done) | (simp_all; done) | (simp [List.take_add_one, *]; done) | grind [List.take_add_one]))⟩ ?_ ?_ ?_
    clear E S
    · rintro lb_9 rec_10 pre x _ a w M_8 _ G hM_8 hp_11 rfl ⟨c1, rfl, f0⟩ E S
      replace E : Env a 19 [] [(13, .int .i64 x), (2, .pointer (some ⟨b_1, 0, none⟩)), (6, v0), (7, .int .i64 (((l0).length : Nat) : Int)), (8, .int .i64 ((k : Nat) : Int)), (12, u_7)] := E
      replace S := S.swap.unpack1
      have hq1 := prefix_lt hp_11
      replace hbx1 := hM_8.2 _ _ hbx1
      replace h0 := h0.le RSq_mono hM_8
      replace hb_1 := hM_8.2 _ _ hb_1
      replace hu_7 := hu_7.le hM_8
      refine WP_region ?_
      refine S_v E rfl (R_assign E rfl) rfl ?_
      clear E a; intro a E
      refine WL_nil ?_
      refine T_n ?_
      replace S := S.front1
      refine rb S ?_
      clear S; intro w S
      refine WP_block ?_
      refine WP_seq ?_
      refine WP_region ?_
      refine S_v E rfl (R_loadM E rfl Try.isAgg123 S.imm (cellM_box hb_1)) rfl ?_
      clear E a; intro a E
      refine S_v E rfl (R_move E rfl) rfl ?_
      clear E a; intro a E
      replace S := S.front1
      refine S_x (X_yield (x := x) E S rfl rfl rfl hY (hM_2.trans (hM_3.trans hM_8)) (by exact flat_prefix (by assumption) (by assumption)) rfl f0 ?_)
      clear E a S; rintro a w M_13 c_14 go_15 hM_13 f0 S E
      replace hbx1 := hM_13.2 _ _ hbx1
      replace h0 := h0.le RSq_mono hM_13
      replace hb_1 := hM_13.2 _ _ hb_1
      replace hu_7 := hu_7.le hM_13
      cases go_15
      · replace f0 : X ((l0.take k).flatten ++ pre ++ [x]) M_13 c_14 := f0
        refine S_v E rfl (R_not E rfl) rfl ?_
        clear E a; intro a E
        refine WL_nil ?_
        refine T_n ?_
        refine WP_condT E rfl rfl ?_
        refine WP_ret ?_
        refine B_r ?_
        replace S := S.front1
        exact ⟨M_13, _, hM_13, ⟨rfl, _, (by first | assumption | (exact flat_prefix (by assumption) (by assumption)) | (exact flat_prefix0 (by assumption) (by assumption))), f0⟩, S⟩
      · replace f0 : J ((l0.take k).flatten ++ pre ++ [x]) M_13 c_14 := f0
        refine S_v E rfl (R_not E rfl) rfl ?_
        clear E a; intro a E
        refine WL_nil ?_
        refine T_n ?_
        refine WP_condF E rfl rfl ?_
        refine WP_skip ?_
        refine B_n ?_
        have S0 := S; clear S; have S := (St.pack [c_14] S0).swap; clear S0
        exact ⟨M_13, _, hM_13, ⟨_, rfl, J_eq f0 (by (rw [List.append_assoc]))⟩, S⟩
    · rintro a w M_16 _ D_17 hM_16 ⟨c1, rfl, f0⟩ S E
      replace S := S.unpack1
      replace hbx1 := hM_16.2 _ _ hbx1
      replace h0 := h0.le RSq_mono hM_16
      replace hb_1 := hM_16.2 _ _ hb_1
      replace hu_7 := hu_7.le hM_16
      refine B_n ?_
      refine B_n ?_
      refine T_n ?_
      refine WP_region ?_
      refine S_v E rfl (R_addx (m := ((k + 1 : Nat) : Int)) E rfl rfl (by omega) (by omega)) rfl ?_
      clear E a; intro a E
      refine S_v E rfl (R_move E rfl) rfl ?_
      clear E a; intro a E
      refine WL_nil ?_
      refine T_n ?_
      replace S := S.front1
      exact ⟨k + 1, ⟨M_16, _, _, (hM_3.trans hM_16), S, E.keep ⟨rfl, rfl, rfl, rfl, trivial⟩, by ((try clear S); (try clear E); first | assumption | omega | rfl | (simp; done) | (simp_all; done) | (simp [List.take_add_one, *]; done) | grind [List.take_add_one]), J_eq f0 (by first | (rw [flatten_succ (by assumption)]; done) | (rw [List.take_of_length_le (by omega)]; done) | (simp; done))⟩, by omega⟩
    · rintro a w M_18 c_ D_19 p_20 _ hM_18 hp_21 ⟨rfl, z_, hz_, f0⟩ S E
      replace hbx1 := hM_18.2 _ _ hbx1
      replace h0 := h0.le RSq_mono hM_18
      replace hb_1 := hM_18.2 _ _ hb_1
      replace hu_7 := hu_7.le hM_18
      refine WP_ret ?_
      refine B_r ?_
      refine B_r ?_
      refine T_r ?_
      refine T_r ?_
      refine B_r ?_
      replace S := S.front1
      exact F_retM0 E S Try.results114 (fun w S => ⟨_, rfl, M_18, _, (hM_2.trans (hM_3.trans hM_18)), .inr ⟨z_, (by first | assumption | (exact flat_prefix0 (by assumption) (by assumption))), f0⟩, S⟩)
  · replace hc_4 := of_decide_eq_false hc_4
    refine WP_exit ?_
    refine T_x ?_
    refine T_x ?_
    refine B_x ?_
    refine F_nrm ?_
    replace S := S.front1
    replace S := S.front1
    have hpre : (l0.take k).flatten = (l0).flatten := by first | (rw [flatten_succ (by assumption)]; done) | (rw [List.take_of_length_le (by omega)]; done) | (simp; done)
    rw [hpre] at hJ
    exact F_retM0 E S Try.results114 (fun w S => ⟨_, rfl, M_3, _, (hM_2.trans hM_3), .inl hJ, S⟩)

set_option maxRecDepth 100000 in
set_option maxHeartbeats 4000000 in
theorem it_Flatten {M : Hp} {v0 : Value} {l0 : List (List Int)} (h0 : RdS 1 (RSq Try.prog RInt) M v0 l0) :
    Pu Try.prog (.func (.func 76) #[] #[]) M [v0] (fun r M' => SeqV Try.prog r M' RInt ((l0).flatten)) := by
  refine Pu_enter Try.func76 rfl Try.ntmps76 rfl Try.call76 ?_
  intro a w M1 H hM1 S E
  replace h0 := h0.le RSq_mono hM1
  have b0 := h0.bound
  refine WP_seq ?_
  refine WP_region ?_
  refine S_x (X_box (cs := #[v0]) E S rfl rfl (cells_one (RdS.one' h0)) ?_)
  clear E a S; rintro a w b_1 E S
  obtain ⟨M_2, hM_2, hb_1, S⟩ := S.freezeB
  replace h0 := h0.le RSq_mono hM_2
  refine S_v E rfl (R_assign E rfl) rfl ?_
  clear E a; intro a E
  refine WL_nil ?_
  refine T_n ?_
  refine WP_seq ?_
  refine WP_region ?_
  refine S_v E rfl (R_makeFunc E rfl rfl) rfl ?_
  clear E a; intro a E
  refine S_v E rfl (R_assign E rfl) rfl ?_
  clear E a; intro a E
  refine WL_nil ?_
  refine T_n ?_
  refine WP_ret ?_
  exact F_ret1 E Try.results76 rfl ⟨_, rfl, M_2, hM_2, (SeqV_eq (it_Flatten1 h0 hb_1) (by ((try clear S); (try clear E); first | rfl | (simp; done) | (simp_all; done) | grind [List.take_add_one]))), S⟩

set_option maxRecDepth 100000 in
set_option maxHeartbeats 4000000 in
theorem slices_AppendSeq {M : Hp} {v1 : Value} {l1 : List Int} (h1 : SeqV Try.prog v1 M (RInt) l1)(hb : l1.length ≤ 1000000000000) :
    Pu Try.prog (.func (.func 113) #[] #[]) M [.slice none 0 0, v1] (fun r M' => RdI M' r l1) := by
  refine Pu_enter Try.func113 rfl Try.ntmps113 rfl Try.call113 ?_
  intro a w M1 H hM1 S E
  replace h1 := h1.le hM1
  replace S : St w M1 (mks [] :: _) := S.empty
  replace E : Env a 13 (([] : List Nat).map mk) _ := E
  refine WP_seq ?_
  refine WP_region ?_
  refine S_x (X_box (cs := #[.slice none 0 0]) E S rfl rfl rfl ?_)
  clear E a S; rintro a w b_1 E S
  refine S_v E rfl (R_assign E rfl) rfl ?_
  clear E a; intro a E
  refine WL_nil ?_
  refine T_n ?_
  refine WP_seq ?_
  refine WP_seq ?_
  refine WP_region ?_
  refine S_v E rfl (R_move E rfl) rfl ?_
  clear E a; intro a E
  refine WL_nil ?_
  refine T_n ?_
  refine WP_block ?_
  replace S := (S.ownNil (e := 3) (sz := 1)).made0
  replace S := S.front1
  replace E := E.keep (l' := [(2, .pointer (some ⟨b_1, 0, none⟩)), (6, v1)]) ⟨rfl, rfl, trivial⟩
  replace S := S.front1
  replace S := S.re1 (l' := ([] : List Int)) (by ((try clear S); (try clear E); first | assumption | omega | rfl | (simp; done) | (simp_all; done) | (simp [List.take_add_one, *]; done) | grind [List.take_add_one]))
  replace S := S.front1
  have S0 := S; clear S; have S := St.pack [blk b_1 (.cells #[(.slice none 0 0)] 33), OwnI 3 (.slice none 0 0) ([] : List Int)] S0; clear S0
  refine WP_range (RV := RInt) (l := l1) (fun pre M c => ∃ (u2 : Value), c = bigs [blk b_1 (.cells #[u2] 33), OwnI 3 u2 pre]) (fun _ _ _ _ => False) E S rfl h1 (Hp.le.refl _) (fun _ _ _ h => by rw [h]; rfl) (by decide) (by rintro _ M M' c hM ⟨u2, rfl⟩; exact ⟨_, rfl⟩) ⟨_, rfl⟩ ?_ ?_ ?_
  clear E S
  · rintro lb_4 rec_5 pre x _ a w M_3 _ G hM_3 hp_6 rfl ⟨u2, rfl⟩ E S
    replace E : Env a 13 [] [(7, .int .i64 x), (2, .pointer (some ⟨b_1, 0, none⟩)), (6, v1)] := E
    replace S := S.swap.unpack2
    have hq0 := prefix_lt hp_6
    replace h1 := h1.le hM_3
    refine WP_region ?_
    refine S_v E rfl (R_assign E rfl) rfl ?_
    clear E a; intro a E
    refine WL_nil ?_
    refine T_n ?_
    replace S := S.front2
    refine rb S ?_
    clear S; intro w S
    refine WP_block ?_
    refine WP_region ?_
    refine S_v E rfl (R_load E rfl (Try.isAgg33 _) (cell_blk (S.mem (.tail _ (.head _))))) rfl ?_
    clear E a; intro a E
    refine S_v E rfl (R_move E rfl) rfl ?_
    clear E a; intro a E
    refine S_x (X_buildI (ys := [x]) E S rfl T33 rfl rfl rfl ?_)
    clear E a S; rintro a w v_8 E S
    replace S := S.front3
    replace S := S.front1
    refine S_x (X_appendB (xs := pre) (ys := [x]) E S rfl rfl rfl T33 (by first | omega | (simp; done) | (simp; omega) | (simp_all; omega)) ?_)
    clear E a S; rintro a w v_9 E S
    have ho_10 := S.oneI
    replace S := S.front2
    refine S_x0 (X_store E S rfl rfl (Try.sizeOf33 _) ho_10 ?_)
    clear E a S; rintro a w E S
    refine WL_nil ?_
    refine B_n ?_
    replace S := S.front1
    replace S := S.front1
    replace S := S.front1
    replace S := S.front1
    have S0 := S; clear S; have S := (St.pack [blk b_1 (.cells #[v_9] 33), OwnI 3 v_9 (pre ++ [x])] S0).swap; clear S0
    exact ⟨M_3, _, (Hp.le.refl _), ⟨_, rfl⟩, S⟩
  · rintro a w M_11 _ D_12 hM_11 ⟨u2, rfl⟩ S E
    replace S := S.unpack2
    replace h1 := h1.le hM_11
    refine B_n ?_
    refine T_n ?_
    refine WP_seq ?_
    refine WP_region ?_
    refine S_v E rfl (R_load E rfl (Try.isAgg33 _) (cell_blk (S.mem (.head _)))) rfl ?_
    clear E a; intro a E
    refine S_v E rfl (R_assign E rfl) rfl ?_
    clear E a; intro a E
    refine WL_nil ?_
    refine T_n ?_
    refine WP_ret ?_
    replace S := S.front1
    have S0 := S; clear S
    obtain ⟨M_13, hM_13, hz_14, S⟩ := S0.freezeI (by (first | omega | (simp; omega) | (simp; done) | (simp_all; omega) | grind))
    clear S0
    replace h1 := h1.le hM_13
    replace S := S.drop
    exact F_retM1 E S Try.results113 rfl (fun w S => ⟨_, rfl, M_13, (hM_11.trans hM_13), hz_14, S⟩)
  · rintro _ _ _ _ _ _ _ _ _ hX; exact hX.elim

set_option maxRecDepth 100000 in
set_option maxHeartbeats 4000000 in
theorem slices_Collect {M : Hp} {v0 : Value} {l0 : List Int} (h0 : SeqV Try.prog v0 M (RInt) l0)(hb : l0.length ≤ 1000000000000) :
    Pu Try.prog (.func (.func 75) #[] #[]) M [v0] (fun r M' => RdI M' r l0) := by
  refine Pu_enter Try.func75 rfl Try.ntmps75 rfl Try.call75 ?_
  intro a w M1 H hM1 S E
  replace h0 := h0.le hM1
  refine WP_seq ?_
  refine WP_region ?_
  refine S_v E rfl (R_assign E rfl) rfl ?_
  clear E a; intro a E
  refine WL_nil ?_
  refine T_n ?_
  refine WP_seq ?_
  refine WP_region ?_
  refine S_v E rfl (R_move E rfl) rfl ?_
  clear E a; intro a E
  refine S_x (X_pu E S rfl rfl rfl (slices_AppendSeq h0 (by (first | omega | (simp; omega) | (simp; done) | (simp_all; omega) | grind))) (Hp.le.refl _) ?_)
  clear E a S; rintro a v_2 w M_1 hM_1 hv_2 S E
  replace h0 := h0.le hM_1
  refine S_v E rfl (R_assign E rfl) rfl ?_
  clear E a; intro a E
  refine WL_nil ?_
  refine T_n ?_
  refine WP_ret ?_
  exact F_ret1 E Try.results75 rfl ⟨_, rfl, M_1, hM_1, hv_2, S⟩

set_option maxRecDepth 100000 in
set_option maxHeartbeats 4000000 in
theorem impl_FlattenSeq {M : Hp} {v0 : Value} {l0 : List (List Int)} (h0 : RdII M v0 l0) (hb : total l0 ≤ 1000000000) (hb2 : l0.length ≤ 1000000000) :
    Pu Try.prog (.func (.func 26) #[] #[]) M [v0] (fun r M' => RdI M' r ((l0).flatten)) := by
  refine Pu_enter Try.func26 rfl Try.ntmps26 rfl Try.call26 ?_
  intro a w M1 H hM1 S E
  replace h0 := h0.le hM1
  have b0 := h0.bound
  have hfl := flatten_len l0
  refine WP_seq ?_
  refine WP_region ?_
  refine S_v E rfl (R_assign E rfl) rfl ?_
  clear E a; intro a E
  refine WL_nil ?_
  refine T_n ?_
  refine WP_seq ?_
  refine WP_region ?_
  refine S_v E rfl (R_move E rfl) rfl ?_
  clear E a; intro a E
  refine S_x (X_pu E S rfl rfl rfl (impl_seqs h0 (by first | omega | (simp; omega))) (Hp.le.refl _) ?_)
  clear E a S; rintro a v_2 w M_1 hM_1 hv_2 S E
  replace h0 := h0.le hM_1
  refine S_x (X_pu E S rfl rfl rfl (it_Flatten hv_2) (Hp.le.refl _) ?_)
  clear E a S; rintro a v_4 w M_3 hM_3 hv_4 S E
  replace h0 := h0.le hM_3
  replace hv_2 := hv_2.le RSq_mono hM_3
  refine S_x (X_pu E S rfl rfl rfl (slices_Collect hv_4 (by (first | omega | (simp; omega) | (simp; done) | (simp_all; omega) | grind))) (Hp.le.refl _) ?_)
  clear E a S; rintro a v_6 w M_5 hM_5 hv_6 S E
  replace h0 := h0.le hM_5
  replace hv_2 := hv_2.le RSq_mono hM_5
  replace hv_4 := hv_4.le hM_5
  refine S_v E rfl (R_assign E rfl) rfl ?_
  clear E a; intro a E
  refine WL_nil ?_
  refine T_n ?_
  refine WP_ret ?_
  exact F_ret1 E Try.results26 rfl ⟨_, rfl, M_5, (hM_1.trans (hM_3.trans hM_5)), hv_6, S⟩

set_option maxRecDepth 100000 in
set_option maxHeartbeats 4000000 in
theorem spec_Chunk {M : Hp} {v0 : Value} {l0 : List Int} (h0 : RdI M v0 l0){n1 : Nat} (hn : 0 < n1) (hb1 : n1 ≤ 1000000) (hb : l0.length ≤ 1000000) :
    Pu Try.prog (.func (.func 27) #[] #[]) M [v0, .int .i64 ((n1 : Nat) : Int)] (fun r M' => ∃ t0, r = .tuple #[t0, .bool true] ∧ RdII M' t0 (chL n1 l0)) := by
  refine Pu_enter Try.func27 rfl Try.ntmps27 rfl Try.call27 ?_
  intro a w M1 H hM1 S E
  replace h0 := h0.le hM1
  have b0 := h0.bound
  refine WP_seq ?_
  refine WP_region ?_
  refine S_v E rfl (R_assign E rfl) rfl ?_
  clear E a; intro a E
  refine S_v E rfl (R_assign E rfl) rfl ?_
  clear E a; intro a E
  refine WL_nil ?_
  refine T_n ?_
  refine WP_seq ?_
  refine WP_seq ?_
  refine WP_region ?_
  refine S_v E rfl (R_move E rfl) rfl ?_
  clear E a; intro a E
  refine S_v E rfl (R_leq E rfl rfl) rfl ?_
  clear E a; intro a E
  refine WL_nil ?_
  refine T_n ?_
  have hc_1 : (decide (((n1 : Nat) : Int) ≤ 0)) = false := by (apply decide_eq_false; omega)
  refine WP_condF E rfl hc_1 ?_
  refine WP_skip ?_
  refine T_n ?_
  refine WP_seq ?_
  refine WP_region ?_
  refine S_v E rfl (R_assign E rfl) rfl ?_
  clear E a; intro a E
  refine WL_nil ?_
  refine T_n ?_
  refine WP_seq ?_
  refine WP_block ?_
  replace S : St w M1 (OwnC 33 1 (.slice none 0 0) ([] : List (List Int)).length [] :: _) := S.ownNil
  have hr_3 : RowsR (RSl 1 RInt) 1 M1 ([] : List (List Int)) [] := RowsR.nil
  have hre : ([] : List (List Int)) = winL n1 n1 l0 0 := by first | rfl | exact winL_succ _ _ _ _
  replace S := S.reR hre
  replace hr_3 := hr_3.eq hre
  clear hre
  refine WP_loop (γ := Nat) (fun (k : Nat) a w => ∃ (M_4 : Hp) (u6 : Value) (xs6 : List Value) (u0 : Value), Hp.le M1 M_4 ∧ St w M_4 (OwnC 33 1 u6 (winL n1 n1 l0 k).length xs6 :: H) ∧ Env a 30 [] [(0, u0), (1, .int .i64 ((n1 : Nat) : Int)), (6, u6)] ∧ (k ≤ l0.length) ∧ (k * n1 ≤ l0.length) ∧ RowsR (RSl 1 RInt) 1 M_4 (winL n1 n1 l0 k) xs6 ∧ RdI M_4 u0 (l0.drop (k * n1))) (fun k => l0.length + 1 - k) 0 ⟨M1, _, _, _, Hp.le.refl _, S, E.keep ⟨rfl, rfl, rfl, trivial⟩, (by omega), (by omega), hr_3, (SLeq h0 (by simp))⟩ ?_
  try clear E
  try clear S
  try clear a
  try clear w
  rintro k a w ⟨M_4, u6, xs6, u0, hM_4, S, E, hL0_0, hL0_1, hr6, hs0_0⟩
  replace h0 := h0.le hM_4
  have hwl := winL_len n1 n1 l0 k
  refine WP_seq ?_
  refine WP_seq ?_
  refine WP_region ?_
  refine S_v E rfl (R_move E rfl) rfl ?_
  clear E a; intro a E
  refine S_v E rfl (R_lenV E rfl T33 hs0_0.len) rfl ?_
  clear E a; intro a E
  refine S_v E rfl (R_move E rfl) rfl ?_
  clear E a; intro a E
  refine S_v E rfl (R_gtr E rfl rfl) rfl ?_
  clear E a; intro a E
  refine WL_nil ?_
  refine T_n ?_
  refine WP_cond E rfl (fun hc_5 => ?_) (fun hc_5 => ?_)
  · replace hc_5 := of_decide_eq_true hc_5
    refine WP_skip ?_
    refine T_n ?_
    refine WP_block ?_
    refine WP_seq ?_
    refine WP_region ?_
    refine S_v E rfl (R_move E rfl) rfl ?_
    clear E a; intro a E
    refine S_v E rfl (R_move E rfl) rfl ?_
    clear E a; intro a E
    refine S_v E rfl (R_move E rfl) rfl ?_
    clear E a; intro a E
    obtain ⟨v_6, sv_6, hv_6⟩ := hs0_0.subv 0 n1 (by first | omega | (simp; done) | (simp; omega) | (simp_all; omega)) (by first | omega | (simp; done) | (simp; omega) | (simp_all; omega))
    simp only [List.drop_zero] at hv_6
    replace hv_6 : RdI M_4 v_6 ((l0.drop (k * n1)).take n1) := hv_6
    refine S_v E rfl (R_sliceH E rfl rfl T33 sv_6 (by omega)) rfl ?_
    clear E a; intro a E
    refine S_x (X_buildM (R := RSl 1 RInt) (vs := [v_6]) (xs := [(l0.drop (k * n1)).take n1]) (RSl_mono RInt_mono) E S rfl T34 rfl rfl rfl (by intro u hu; simp only [List.mem_cons, List.not_mem_nil, or_false] at hu; rcases hu with rfl <;> first | exact RdI.one hv_6 | rfl) rfl (rowsC (R := RSl 1 RInt) (RdI.row hv_6) rowsN) ?_)
    clear E a S; rintro a v_7 w M_8 hM_8 hv_7 S E
    replace hv_7 : RdII M_8 v_7 [(l0.drop (k * n1)).take n1] := hv_7
    replace h0 := h0.le hM_8
    replace hr6 := hr6.le (RSl_mono RInt_mono) hM_8
    replace hs0_0 := hs0_0.le hM_8
    replace hv_6 := hv_6.le hM_8
    refine S_x (X_appendR (R := (RSl 1 RInt)) (zs := winL n1 n1 l0 k) (ys := [(l0.drop (k * n1)).take n1]) E S hr6 rfl rfl rfl T34 hv_7 one_RSl (by (simp only [winL_len, List.length_cons, List.length_nil]; omega)) (by (simp only [winL_len, List.length_cons, List.length_nil]; omega)) ?_)
    clear E a S; rintro a w v_9 xs_10 E hr_11 S
    refine S_v E rfl (R_assign E rfl) rfl ?_
    clear E a; intro a E
    refine WL_nil ?_
    refine T_n ?_
    refine WP_region ?_
    refine S_v E rfl (R_move E rfl) rfl ?_
    clear E a; intro a E
    refine S_v E rfl (R_move E rfl) rfl ?_
    clear E a; intro a E
    obtain ⟨v_12, sv_12, hv_12⟩ := hs0_0.subv n1 ((l0.drop (k * n1)).length) (by first | omega | (simp; done) | (simp; omega) | (simp_all; omega)) (by first | omega | (simp; done) | (simp; omega) | (simp_all; omega))
    simp only [List.take_length] at hv_12
    replace hv_12 : RdI M_8 v_12 ((l0.drop (k * n1)).drop n1) := hv_12
    refine S_v E rfl (R_sliceL E rfl rfl T33 hs0_0.len sv_12 (by omega)) rfl ?_
    clear E a; intro a E
    refine S_v E rfl (R_assign E rfl) rfl ?_
    clear E a; intro a E
    refine WL_nil ?_
    refine B_n ?_
    refine T_n ?_
    have hre : (winL n1 n1 l0 k) ++ [(l0.drop (k * n1)).take n1] = winL n1 n1 l0 (k + 1) := by first | rfl | exact winL_succ _ _ _ _
    replace S := S.reR hre
    replace hr_11 := hr_11.eq hre
    clear hre
    exact ⟨k + 1, ⟨M_8, _, _, _, (hM_4.trans hM_8), S, E.keep ⟨rfl, rfl, rfl, trivial⟩, (by have h9 := ck_step (n := n1) (k := k) (l := l0) (by omega); have h8 := Nat.le_mul_of_pos_right (k + 1) hn; omega), (by exact ck_step (by omega)), hr_11, (SLeq hv_12 (by exact ck_drop))⟩, by omega⟩
  · replace hc_5 := of_decide_eq_false hc_5
    refine WP_exit ?_
    refine T_x ?_
    refine T_x ?_
    refine B_x ?_
    refine T_n ?_
    refine WP_seq ?_
    refine WP_seq ?_
    refine WP_region ?_
    refine S_v E rfl (R_move E rfl) rfl ?_
    clear E a; intro a E
    refine S_v E rfl (R_lenV E rfl T33 hs0_0.len) rfl ?_
    clear E a; intro a E
    refine S_v E rfl (R_gtr E rfl rfl) rfl ?_
    clear E a; intro a E
    refine WL_nil ?_
    refine T_n ?_
    refine WP_cond E rfl (fun hc_13 => ?_) (fun hc_13 => ?_)
    · replace hc_13 := of_decide_eq_true hc_13
      refine WP_region ?_
      refine S_v E rfl (R_move E rfl) rfl ?_
      clear E a; intro a E
      refine S_v E rfl (R_move E rfl) rfl ?_
      clear E a; intro a E
      refine S_x (X_buildM (R := RSl 1 RInt) (vs := [u0]) (xs := [l0.drop (k * n1)]) (RSl_mono RInt_mono) E S rfl T34 rfl rfl rfl (by intro u hu; simp only [List.mem_cons, List.not_mem_nil, or_false] at hu; rcases hu with rfl <;> first | exact RdI.one hs0_0 | rfl) rfl (rowsC (R := RSl 1 RInt) (RdI.row hs0_0) rowsN) ?_)
      clear E a S; rintro a v_14 w M_15 hM_15 hv_14 S E
      replace hv_14 : RdII M_15 v_14 [l0.drop (k * n1)] := hv_14
      replace h0 := h0.le hM_15
      replace hr6 := hr6.le (RSl_mono RInt_mono) hM_15
      replace hs0_0 := hs0_0.le hM_15
      refine S_x (X_appendR (R := (RSl 1 RInt)) (zs := winL n1 n1 l0 k) (ys := [l0.drop (k * n1)]) E S hr6 rfl rfl rfl T34 hv_14 one_RSl (by (simp only [winL_len, List.length_cons, List.length_nil]; omega)) (by (simp only [winL_len, List.length_cons, List.length_nil]; omega)) ?_)
      clear E a S; rintro a w v_16 xs_17 E hr_18 S
      refine S_v E rfl (R_assign E rfl) rfl ?_
      clear E a; intro a E
      refine WL_nil ?_
      refine T_n ?_
      refine WP_seq ?_
      refine WP_region ?_
      refine S_v E rfl (R_move E rfl) rfl ?_
      clear E a; intro a E
      refine S_v E rfl (R_assign E rfl) rfl ?_
      clear E a; intro a E
      refine S_v E rfl (R_assign E rfl) rfl ?_
      clear E a; intro a E
      refine WL_nil ?_
      refine T_n ?_
      refine WP_ret ?_
      have S0 := S; clear S
      obtain ⟨M_19, hM_19, hz_20, S⟩ := S0.freezeR hr_18 (RSl_mono RInt_mono) (by (first | omega | (simp only [winL_len, List.length_append, List.length_cons, List.length_nil]; omega) | (simp; omega)))
      clear S0
      replace hz_20 : RdII M_19 v_16 ((winL n1 n1 l0 k) ++ [l0.drop (k * n1)]) := hz_20
      replace h0 := h0.le hM_19
      replace hs0_0 := hs0_0.le hM_19
      replace hv_14 := hv_14.le hM_19
      exact F_ret2 E Try.results27 rfl rfl ⟨_, rfl, M_19, (hM_4.trans (hM_15.trans hM_19)), ⟨_, (by first | rfl | (simp; done) | (simp_all; done)), (by rw [show (chL n1 l0) = ((winL n1 n1 l0 k) ++ [l0.drop (k * n1)]) from by (first | exact (ck_win1 hn (by omega) (by omega) (by omega)).symm | exact (ck_win0 hn (by omega) (by omega)).symm)]; exact hz_20)⟩, S⟩
    · replace hc_13 := of_decide_eq_false hc_13
      refine WP_skip ?_
      refine T_n ?_
      refine WP_seq ?_
      refine WP_region ?_
      refine S_v E rfl (R_move E rfl) rfl ?_
      clear E a; intro a E
      refine S_v E rfl (R_assign E rfl) rfl ?_
      clear E a; intro a E
      refine S_v E rfl (R_assign E rfl) rfl ?_
      clear E a; intro a E
      refine WL_nil ?_
      refine T_n ?_
      refine WP_ret ?_
      have S0 := S; clear S
      obtain ⟨M_21, hM_21, hz_22, S⟩ := S0.freezeR hr6 (RSl_mono RInt_mono) (by (first | omega | (simp only [winL_len, List.length_append, List.length_cons, List.length_nil]; omega) | (simp; omega)))
      clear S0
      replace hz_22 : RdII M_21 u6 (winL n1 n1 l0 k) := hz_22
      replace h0 := h0.le hM_21
      replace hs0_0 := hs0_0.le hM_21
      exact F_ret2 E Try.results27 rfl rfl ⟨_, rfl, M_21, (hM_4.trans hM_21), ⟨_, (by first | rfl | (simp; done) | (simp_all; done)), (by rw [show (chL n1 l0) = (winL n1 n1 l0 k) from by (first | exact (ck_win1 hn (by omega) (by omega) (by omega)).symm | exact (ck_win0 hn (by omega) (by omega)).symm)]; exact hz_22)⟩, S⟩

set_option maxRecDepth 100000 in
set_option maxHeartbeats 4000000 in
theorem laws_FnChunks {M : Hp} {v0 : Value} {l0 : List Int} (h0 : RdI M v0 l0){n1 : Nat} (g1 : n1 ≤ 255) :
    PuC Try.prog 5 M [v0, .int .u8 ((n1 : Nat) : Int)] (fun r M' => r = .bool true) := by
  refine PuC_enter Try.func5 rfl Try.ntmps5 rfl ?_
  intro a w M1 H hM1 S E
  replace h0 := h0.le hM1
  have b0 := h0.bound
  refine WP_seq ?_
  refine WP_region ?_
  refine S_v E rfl (R_assign E rfl) rfl ?_
  clear E a; intro a E
  refine WL_nil ?_
  refine T_n ?_
  refine WP_seq ?_
  refine WP_seq ?_
  refine WP_region ?_
  refine S_v E rfl (R_move E rfl) rfl ?_
  clear E a; intro a E
  refine S_v E rfl (R_lenV E rfl T33 h0.len) rfl ?_
  clear E a; intro a E
  refine S_v E rfl (R_gtr E rfl rfl) rfl ?_
  clear E a; intro a E
  refine WL_nil ?_
  refine T_n ?_
  refine WP_cond E rfl (fun hc_1 => ?_) (fun hc_1 => ?_)
  · replace hc_1 := of_decide_eq_true hc_1
    refine WP_seq ?_
    refine WP_region ?_
    refine S_v E rfl (R_assign E rfl) rfl ?_
    clear E a; intro a E
    refine WL_nil ?_
    refine T_n ?_
    refine WP_ret ?_
    refine T_r ?_
    exact F_ret1 E Try.results5 rfl ⟨_, rfl, M1, (Hp.le.refl _), rfl, S⟩
  · replace hc_1 := of_decide_eq_false hc_1
    refine WP_skip ?_
    refine T_n ?_
    refine WP_seq ?_
    refine WP_seq ?_
    refine WP_region ?_
    refine S_x (X_buildI (ys := [1]) E S rfl T33 rfl rfl rfl ?_)
    clear E a S; rintro a w v_2 E S
    have S0 := S; clear S
    obtain ⟨M_3, hM_3, hz_4, S⟩ := S0.freezeI (by (first | omega | (simp; done)))
    clear S0
    replace h0 := h0.le hM_3
    refine S_x (X_pu E S rfl rfl rfl (impl_Chunk hz_4 (by first | omega | (simp; done) | (simp; omega)) (by first | omega | (simp; done) | (simp; omega))) (Hp.le.refl _) ?_)
    clear E a S; rintro a _ w M_5 hM_5 ⟨v_6, rfl, hv_6⟩ S E
    replace h0 := h0.le hM_5
    replace hz_4 := hz_4.le hM_5
    refine S_v E rfl (R_move E rfl) rfl ?_
    clear E a; intro a E
    refine S_v E rfl (R_extract E rfl rfl) rfl ?_
    clear E a; intro a E
    refine S_v E rfl (R_extract E rfl rfl) rfl ?_
    clear E a; intro a E
    refine S_v E rfl (R_assign E rfl) rfl ?_
    clear E a; intro a E
    refine S_v E rfl (R_assign E rfl) rfl ?_
    clear E a; intro a E
    refine WL_nil ?_
    refine T_n ?_
    refine WP_seq ?_
    refine WP_region ?_
    refine S_v E rfl (R_move E rfl) rfl ?_
    clear E a; intro a E
    refine S_v E rfl (R_not E rfl) rfl ?_
    clear E a; intro a E
    refine S_v E rfl (R_move E rfl) rfl ?_
    clear E a; intro a E
    have hc_7 : (!(decide (0 < 1))) = false := by (clear S E; first | (simp; done) | decide | (simp [chunkR, chL, chS, chF]; done) | (first | refine dec_t ?_ | refine dec_f ?_ | skip); first | omega | (rw [hcq]; done) | rfl | (rw [hcq, chL_flat]; done) | (rw [hcq]; exact chL_flat _ _) | (rw [hcq]; rfl) | (refine decide_eq_false ?_; omega) | (refine decide_eq_true ?_; omega) | (simp only [Bool.not_eq_true', decide_eq_false_iff_not]; omega) | (rw [hcq, chL_flat]; simp; done) | (have h9 := chL_at (l := l0) hn (show (chL n1 l0)[_]? = some _ by rw [← hcq]; assumption); rw [← hcq] at h9; refine decide_eq_false ?_; omega))
    replace E := E.val (t := 25) rfl hc_7
    replace E := E.val (t := 26) rfl hc_7
    refine WL_guard_yes E rfl rfl ?_
    refine S_v E rfl (R_move E rfl) rfl ?_
    clear E a; intro a E
    refine WL_guard_yes E rfl rfl ?_
    refine S_v E rfl (R_lenV E rfl T34 hv_6.len) rfl ?_
    clear E a; intro a E
    refine WL_guard_yes E rfl rfl ?_
    refine S_v E rfl (R_neq E rfl rfl) rfl ?_
    clear E a; intro a E
    refine S_v E rfl (R_pickF E rfl rfl) rfl ?_
    clear E a; intro a E
    refine WL_nil ?_
    refine T_n ?_
    have hc_8 : (decide ((((chunkR 1 [1]).length : Nat) : Int) ≠ 1)) = false := by (clear S E; first | (simp; done) | decide | (simp [chunkR, chL, chS, chF]; done) | (first | refine dec_t ?_ | refine dec_f ?_ | skip); first | omega | (rw [hcq]; done) | rfl | (rw [hcq, chL_flat]; done) | (rw [hcq]; exact chL_flat _ _) | (rw [hcq]; rfl) | (refine decide_eq_false ?_; omega) | (refine decide_eq_true ?_; omega) | (simp only [Bool.not_eq_true', decide_eq_false_iff_not]; omega) | (rw [hcq, chL_flat]; simp; done) | (have h9 := chL_at (l := l0) hn (show (chL n1 l0)[_]? = some _ by rw [← hcq]; assumption); rw [← hcq] at h9; refine decide_eq_false ?_; omega))
    refine WP_condF E rfl hc_8 ?_
    refine WP_skip ?_
    refine T_n ?_
    refine WP_seq ?_
    refine WP_seq ?_
    refine WP_region ?_
    refine S_v E rfl (R_move E rfl) rfl ?_
    clear E a; intro a E
    refine S_x (X_buildM (R := RSl 1 RInt) (vs := [v0]) (xs := [l0]) (RSl_mono RInt_mono) E S rfl T34 rfl rfl rfl (by intro u hu; simp only [List.mem_cons, List.not_mem_nil, or_false] at hu; rcases hu with rfl <;> first | exact RdI.one h0 | rfl) rfl (rowsC (R := RSl 1 RInt) (RdI.row h0) rowsN) ?_)
    clear E a S; rintro a v_9 w M_10 hM_10 hv_9 S E
    replace hv_9 : RdII M_10 v_9 [l0] := hv_9
    replace h0 := h0.le hM_10
    replace hz_4 := hz_4.le hM_10
    replace hv_6 := hv_6.le hM_10
    refine S_x (X_pu E S rfl rfl rfl (laws_few hv_9) (Hp.le.refl _) ?_)
    clear E a S; rintro a _ w M_11 hM_11 rfl S E
    replace h0 := h0.le hM_11
    replace hz_4 := hz_4.le hM_11
    replace hv_6 := hv_6.le hM_11
    replace hv_9 := hv_9.le hM_11
    refine S_v E rfl (R_not E rfl) rfl ?_
    clear E a; intro a E
    refine WL_nil ?_
    refine T_n ?_
    refine WP_cond E rfl (fun hc_12 => ?_) (fun hc_12 => ?_)
    · refine WP_seq ?_
      refine WP_region ?_
      refine S_v E rfl (R_assign E rfl) rfl ?_
      clear E a; intro a E
      refine WL_nil ?_
      refine T_n ?_
      refine WP_ret ?_
      refine T_r ?_
      exact F_ret1 E Try.results5 rfl ⟨_, rfl, M_11, (hM_3.trans (hM_5.trans (hM_10.trans hM_11))), rfl, S⟩
    · have hle : l0.length ≤ 300 := (by simp_all)
      refine WP_skip ?_
      refine T_n ?_
      refine WP_seq ?_
      refine WP_region ?_
      refine S_v E rfl (R_move E rfl) rfl ?_
      clear E a; intro a E
      refine S_v E rfl (R_convx E rfl Try.underlying5 Try.underlying3 (by omega)) rfl ?_
      clear E a; intro a E
      refine S_v E rfl (R_assign E rfl) rfl ?_
      clear E a; intro a E
      refine WL_nil ?_
      refine T_n ?_
      refine WP_seq ?_
      refine WP_region ?_
      refine S_v E rfl (R_move E rfl) rfl ?_
      clear E a; intro a E
      refine S_v E rfl (R_move E rfl) rfl ?_
      clear E a; intro a E
      refine S_x (X_pu E S rfl rfl rfl (impl_Chunk h0 (by first | omega | (simp; done) | (simp; omega)) (by first | omega | (simp; done) | (simp; omega))) (Hp.le.refl _) ?_)
      clear E a S; rintro a _ w M_13 hM_13 ⟨v_14, rfl, hv_14⟩ S E
      replace h0 := h0.le hM_13
      replace hz_4 := hz_4.le hM_13
      replace hv_6 := hv_6.le hM_13
      replace hv_9 := hv_9.le hM_13
      refine S_v E rfl (R_move E rfl) rfl ?_
      clear E a; intro a E
      refine S_v E rfl (R_extract E rfl rfl) rfl ?_
      clear E a; intro a E
      refine S_v E rfl (R_extract E rfl rfl) rfl ?_
      clear E a; intro a E
      refine S_v E rfl (R_assign E rfl) rfl ?_
      clear E a; intro a E
      refine S_v E rfl (R_assign E rfl) rfl ?_
      clear E a; intro a E
      refine WL_nil ?_
      refine T_n ?_
      refine WP_seq ?_
      refine WP_region ?_
      refine S_v E rfl (R_move E rfl) rfl ?_
      clear E a; intro a E
      refine S_v E rfl (R_move E rfl) rfl ?_
      clear E a; intro a E
      refine S_x (X_pu E S rfl rfl rfl (impl_ChunkSeq h0 (by first | omega | (simp; done) | (simp; omega)) (by first | omega | (simp; done) | (simp; omega))) (Hp.le.refl _) ?_)
      clear E a S; rintro a _ w M_15 hM_15 ⟨v_16, rfl, hv_16⟩ S E
      replace h0 := h0.le hM_15
      replace hz_4 := hz_4.le hM_15
      replace hv_6 := hv_6.le hM_15
      replace hv_9 := hv_9.le hM_15
      replace hv_14 := hv_14.le hM_15
      refine S_v E rfl (R_move E rfl) rfl ?_
      clear E a; intro a E
      refine S_v E rfl (R_extract E rfl rfl) rfl ?_
      clear E a; intro a E
      refine S_v E rfl (R_extract E rfl rfl) rfl ?_
      clear E a; intro a E
      refine S_v E rfl (R_assign E rfl) rfl ?_
      clear E a; intro a E
      refine S_v E rfl (R_assign E rfl) rfl ?_
      clear E a; intro a E
      refine WL_nil ?_
      refine T_n ?_
      refine WP_seq ?_
      refine WP_seq ?_
      refine WP_region ?_
      refine S_v E rfl (R_move E rfl) rfl ?_
      clear E a; intro a E
      refine S_v E rfl (R_eql E rfl rfl) rfl ?_
      clear E a; intro a E
      refine WL_nil ?_
      refine T_n ?_
      refine WP_cond E rfl (fun hc_17 => ?_) (fun hc_17 => ?_)
      · replace hc_17 := of_decide_eq_true hc_17
        refine WP_seq ?_
        refine WP_region ?_
        refine S_v E rfl (R_move E rfl) rfl ?_
        clear E a; intro a E
        refine S_v E rfl (R_not E rfl) rfl ?_
        clear E a; intro a E
        refine S_v E rfl (R_move E rfl) rfl ?_
        clear E a; intro a E
        have hc_18 : (!(decide (0 < n1))) = true := by (clear S E; first | (simp; done) | decide | (simp [chunkR, chL, chS, chF]; done) | (first | refine dec_t ?_ | refine dec_f ?_ | skip); first | omega | (rw [hcq]; done) | rfl | (rw [hcq, chL_flat]; done) | (rw [hcq]; exact chL_flat _ _) | (rw [hcq]; rfl) | (refine decide_eq_false ?_; omega) | (refine decide_eq_true ?_; omega) | (simp only [Bool.not_eq_true', decide_eq_false_iff_not]; omega) | (rw [hcq, chL_flat]; simp; done) | (have h9 := chL_at (l := l0) hn (show (chL n1 l0)[_]? = some _ by rw [← hcq]; assumption); rw [← hcq] at h9; refine decide_eq_false ?_; omega))
        replace E := E.val (t := 52) rfl hc_18
        replace E := E.val (t := 53) rfl hc_18
        refine WL_guard_yes E rfl rfl ?_
        refine S_v E rfl (R_move E rfl) rfl ?_
        clear E a; intro a E
        refine WL_guard_yes E rfl rfl ?_
        refine S_v E rfl (R_not E rfl) rfl ?_
        clear E a; intro a E
        refine S_v E rfl (R_pickT E rfl rfl) rfl ?_
        clear E a; intro a E
        refine S_v E rfl (R_assign E rfl) rfl ?_
        clear E a; intro a E
        refine WL_nil ?_
        refine T_n ?_
        refine WP_ret ?_
        refine T_r ?_
        exact F_ret1 E Try.results5 rfl ⟨_, rfl, M_15, (hM_3.trans (hM_5.trans (hM_10.trans (hM_11.trans (hM_13.trans hM_15))))), (congrArg Value.bool (by (clear S E; first | (simp; done) | decide | (simp [chunkR, chL, chS, chF]; done) | (first | refine dec_t ?_ | refine dec_f ?_ | skip); first | omega | (rw [hcq]; done) | rfl | (rw [hcq, chL_flat]; done) | (rw [hcq]; exact chL_flat _ _) | (rw [hcq]; rfl) | (refine decide_eq_false ?_; omega) | (refine decide_eq_true ?_; omega) | (simp only [Bool.not_eq_true', decide_eq_false_iff_not]; omega) | (rw [hcq, chL_flat]; simp; done) | (have h9 := chL_at (l := l0) hn (show (chL n1 l0)[_]? = some _ by rw [← hcq]; assumption); rw [← hcq] at h9; refine decide_eq_false ?_; omega)))), S⟩
      · replace hc_17 := of_decide_eq_false hc_17
        have hn : 0 < n1 := by omega
        have hcq : chunkR n1 l0 = chL n1 l0 := chunkR_pos hn l0
        have hcl := chL_len hn l0
        rw [← hcq] at hcl
        refine WP_skip ?_
        refine T_n ?_
        refine WP_seq ?_
        refine WP_seq ?_
        refine WP_region ?_
        refine S_v E rfl (R_move E rfl) rfl ?_
        clear E a; intro a E
        refine S_v E rfl (R_not E rfl) rfl ?_
        clear E a; intro a E
        refine S_v E rfl (R_move E rfl) rfl ?_
        clear E a; intro a E
        have hc_19 : (!(decide (0 < n1))) = false := by (clear S E; first | (simp; done) | decide | (simp [chunkR, chL, chS, chF]; done) | (first | refine dec_t ?_ | refine dec_f ?_ | skip); first | omega | (rw [hcq]; done) | rfl | (rw [hcq, chL_flat]; done) | (rw [hcq]; exact chL_flat _ _) | (rw [hcq]; rfl) | (refine decide_eq_false ?_; omega) | (refine decide_eq_true ?_; omega) | (simp only [Bool.not_eq_true', decide_eq_false_iff_not]; omega) | (rw [hcq, chL_flat]; simp; done) | (have h9 := chL_at (l := l0) hn (show (chL n1 l0)[_]? = some _ by rw [← hcq]; assumption); rw [← hcq] at h9; refine decide_eq_false ?_; omega))
        replace E := E.val (t := 58) rfl hc_19
        replace E := E.val (t := 59) rfl hc_19
        refine WL_guard_yes E rfl rfl ?_
        refine S_v E rfl (R_move E rfl) rfl ?_
        clear E a; intro a E
        refine WL_guard_yes E rfl rfl ?_
        refine S_v E rfl (R_not E rfl) rfl ?_
        clear E a; intro a E
        refine S_v E rfl (R_pickF E rfl rfl) rfl ?_
        clear E a; intro a E
        refine S_v E rfl (R_move E rfl) rfl ?_
        clear E a; intro a E
        have hc_20 : (!(decide (0 < n1))) = false := by (clear S E; first | (simp; done) | decide | (simp [chunkR, chL, chS, chF]; done) | (first | refine dec_t ?_ | refine dec_f ?_ | skip); first | omega | (rw [hcq]; done) | rfl | (rw [hcq, chL_flat]; done) | (rw [hcq]; exact chL_flat _ _) | (rw [hcq]; rfl) | (refine decide_eq_false ?_; omega) | (refine decide_eq_true ?_; omega) | (simp only [Bool.not_eq_true', decide_eq_false_iff_not]; omega) | (rw [hcq, chL_flat]; simp; done) | (have h9 := chL_at (l := l0) hn (show (chL n1 l0)[_]? = some _ by rw [← hcq]; assumption); rw [← hcq] at h9; refine decide_eq_false ?_; omega))
        replace E := E.val (t := 61) rfl hc_20
        replace E := E.val (t := 62) rfl hc_20
        replace E := E.val (t := 63) rfl hc_20
        refine WL_guard_yes E rfl rfl ?_
        refine S_v E rfl (R_move E rfl) rfl ?_
        clear E a; intro a E
        refine WL_guard_yes E rfl rfl ?_
        refine S_x (X_pu E S rfl rfl rfl (laws_joined hv_14 (by first | (rw [hcq, ← flatten_len, chL_flat]; omega) | (rw [hcq]; omega) | first | omega | decide | (simp only [List.nil_append]; omega) | (simp; omega))) (Hp.le.refl _) ?_)
        clear E a S; rintro a v_22 w M_21 hM_21 hv_22 S E
        replace h0 := h0.le hM_21
        replace hz_4 := hz_4.le hM_21
        replace hv_6 := hv_6.le hM_21
        replace hv_9 := hv_9.le hM_21
        replace hv_14 := hv_14.le hM_21
        replace hv_16 := hv_16.le hM_21
        refine WL_guard_yes E rfl rfl ?_
        refine S_v E rfl (R_move E rfl) rfl ?_
        clear E a; intro a E
        refine WL_guard_yes E rfl rfl ?_
        refine S_x (X_pu E S rfl rfl rfl (laws_eq hv_22 h0) (Hp.le.refl _) ?_)
        clear E a S; rintro a _ w M_23 hM_23 rfl S E
        replace h0 := h0.le hM_23
        replace hz_4 := hz_4.le hM_23
        replace hv_6 := hv_6.le hM_23
        replace hv_9 := hv_9.le hM_23
        replace hv_14 := hv_14.le hM_23
        replace hv_16 := hv_16.le hM_23
        replace hv_22 := hv_22.le hM_23
        refine WL_guard_yes E rfl rfl ?_
        refine S_v E rfl (R_not E rfl) rfl ?_
        clear E a; intro a E
        refine S_v E rfl (R_pickF E rfl rfl) rfl ?_
        clear E a; intro a E
        refine S_v E rfl (R_move E rfl) rfl ?_
        clear E a; intro a E
        have hc_24 : (!(decide ((chunkR n1 l0).flatten = l0))) = false := by (clear S E; first | (simp; done) | decide | (simp [chunkR, chL, chS, chF]; done) | (first | refine dec_t ?_ | refine dec_f ?_ | skip); first | omega | (rw [hcq]; done) | rfl | (rw [hcq, chL_flat]; done) | (rw [hcq]; exact chL_flat _ _) | (rw [hcq]; rfl) | (refine decide_eq_false ?_; omega) | (refine decide_eq_true ?_; omega) | (simp only [Bool.not_eq_true', decide_eq_false_iff_not]; omega) | (rw [hcq, chL_flat]; simp; done) | (have h9 := chL_at (l := l0) hn (show (chL n1 l0)[_]? = some _ by rw [← hcq]; assumption); rw [← hcq] at h9; refine decide_eq_false ?_; omega))
        replace E := E.val (t := 68) rfl hc_24
        replace E := E.val (t := 69) rfl hc_24
        replace E := E.val (t := 70) rfl hc_24
        refine WL_guard_yes E rfl rfl ?_
        refine S_v E rfl (R_move E rfl) rfl ?_
        clear E a; intro a E
        refine WL_guard_yes E rfl rfl ?_
        refine S_v E rfl (R_move E rfl) rfl ?_
        clear E a; intro a E
        refine WL_guard_yes E rfl rfl ?_
        refine S_x (X_pu E S rfl rfl rfl (laws_eqLists hv_14 hv_16) (Hp.le.refl _) ?_)
        clear E a S; rintro a _ w M_25 hM_25 rfl S E
        replace h0 := h0.le hM_25
        replace hz_4 := hz_4.le hM_25
        replace hv_6 := hv_6.le hM_25
        replace hv_9 := hv_9.le hM_25
        replace hv_14 := hv_14.le hM_25
        replace hv_16 := hv_16.le hM_25
        replace hv_22 := hv_22.le hM_25
        refine WL_guard_yes E rfl rfl ?_
        refine S_v E rfl (R_not E rfl) rfl ?_
        clear E a; intro a E
        refine S_v E rfl (R_pickF E rfl rfl) rfl ?_
        clear E a; intro a E
        refine S_v E rfl (R_move E rfl) rfl ?_
        clear E a; intro a E
        have hc_26 : (!(decide (chunkR n1 l0 = chunkR n1 l0))) = false := by (clear S E; first | (simp; done) | decide | (simp [chunkR, chL, chS, chF]; done) | (first | refine dec_t ?_ | refine dec_f ?_ | skip); first | omega | (rw [hcq]; done) | rfl | (rw [hcq, chL_flat]; done) | (rw [hcq]; exact chL_flat _ _) | (rw [hcq]; rfl) | (refine decide_eq_false ?_; omega) | (refine decide_eq_true ?_; omega) | (simp only [Bool.not_eq_true', decide_eq_false_iff_not]; omega) | (rw [hcq, chL_flat]; simp; done) | (have h9 := chL_at (l := l0) hn (show (chL n1 l0)[_]? = some _ by rw [← hcq]; assumption); rw [← hcq] at h9; refine decide_eq_false ?_; omega))
        replace E := E.val (t := 74) rfl hc_26
        replace E := E.val (t := 75) rfl hc_26
        replace E := E.val (t := 76) rfl hc_26
        refine WL_guard_yes E rfl rfl ?_
        refine S_v E rfl (R_move E rfl) rfl ?_
        clear E a; intro a E
        refine WL_guard_yes E rfl rfl ?_
        refine S_v E rfl (R_move E rfl) rfl ?_
        clear E a; intro a E
        refine WL_guard_yes E rfl rfl ?_
        refine S_x (X_pu E S rfl rfl rfl (impl_BufferSeq h0 (by first | omega | (simp; done) | (simp; omega)) (by first | omega | (simp; done) | (simp; omega)) (by first | omega | (simp; done) | (simp; omega))) (Hp.le.refl _) ?_)
        clear E a S; rintro a v_28 w M_27 hM_27 hv_28 S E
        replace h0 := h0.le hM_27
        replace hz_4 := hz_4.le hM_27
        replace hv_6 := hv_6.le hM_27
        replace hv_9 := hv_9.le hM_27
        replace hv_14 := hv_14.le hM_27
        replace hv_16 := hv_16.le hM_27
        replace hv_22 := hv_22.le hM_27
        refine WL_guard_yes E rfl rfl ?_
        refine S_v E rfl (R_move E rfl) rfl ?_
        clear E a; intro a E
        refine WL_guard_yes E rfl rfl ?_
        refine S_x (X_pu E S rfl rfl rfl (laws_eqLists hv_28 hv_14) (Hp.le.refl _) ?_)
        clear E a S; rintro a _ w M_29 hM_29 rfl S E
        replace h0 := h0.le hM_29
        replace hz_4 := hz_4.le hM_29
        replace hv_6 := hv_6.le hM_29
        replace hv_9 := hv_9.le hM_29
        replace hv_14 := hv_14.le hM_29
        replace hv_16 := hv_16.le hM_29
        replace hv_22 := hv_22.le hM_29
        replace hv_28 := hv_28.le hM_29
        refine WL_guard_yes E rfl rfl ?_
        refine S_v E rfl (R_not E rfl) rfl ?_
        clear E a; intro a E
        refine S_v E rfl (R_pickF E rfl rfl) rfl ?_
        clear E a; intro a E
        refine S_v E rfl (R_move E rfl) rfl ?_
        clear E a; intro a E
        have hc_30 : (!(decide (chL n1 l0 = chunkR n1 l0))) = false := by (clear S E; first | (simp; done) | decide | (simp [chunkR, chL, chS, chF]; done) | (first | refine dec_t ?_ | refine dec_f ?_ | skip); first | omega | (rw [hcq]; done) | rfl | (rw [hcq, chL_flat]; done) | (rw [hcq]; exact chL_flat _ _) | (rw [hcq]; rfl) | (refine decide_eq_false ?_; omega) | (refine decide_eq_true ?_; omega) | (simp only [Bool.not_eq_true', decide_eq_false_iff_not]; omega) | (rw [hcq, chL_flat]; simp; done) | (have h9 := chL_at (l := l0) hn (show (chL n1 l0)[_]? = some _ by rw [← hcq]; assumption); rw [← hcq] at h9; refine decide_eq_false ?_; omega))
        replace E := E.val (t := 82) rfl hc_30
        replace E := E.val (t := 83) rfl hc_30
        replace E := E.val (t := 84) rfl hc_30
        refine WL_guard_yes E rfl rfl ?_
        refine S_v E rfl (R_move E rfl) rfl ?_
        clear E a; intro a E
        refine WL_guard_yes E rfl rfl ?_
        refine S_x (X_pu E S rfl rfl rfl (impl_Flatten hv_14 (by first | (rw [hcq, ← flatten_len, chL_flat]; omega) | (rw [hcq]; omega) | first | omega | decide | (simp only [List.nil_append]; omega) | (simp; omega))) (Hp.le.refl _) ?_)
        clear E a S; rintro a v_32 w M_31 hM_31 hv_32 S E
        replace h0 := h0.le hM_31
        replace hz_4 := hz_4.le hM_31
        replace hv_6 := hv_6.le hM_31
        replace hv_9 := hv_9.le hM_31
        replace hv_14 := hv_14.le hM_31
        replace hv_16 := hv_16.le hM_31
        replace hv_22 := hv_22.le hM_31
        replace hv_28 := hv_28.le hM_31
        refine WL_guard_yes E rfl rfl ?_
        refine S_v E rfl (R_move E rfl) rfl ?_
        clear E a; intro a E
        refine WL_guard_yes E rfl rfl ?_
        refine S_x (X_pu E S rfl rfl rfl (laws_eq hv_32 h0) (Hp.le.refl _) ?_)
        clear E a S; rintro a _ w M_33 hM_33 rfl S E
        replace h0 := h0.le hM_33
        replace hz_4 := hz_4.le hM_33
        replace hv_6 := hv_6.le hM_33
        replace hv_9 := hv_9.le hM_33
        replace hv_14 := hv_14.le hM_33
        replace hv_16 := hv_16.le hM_33
        replace hv_22 := hv_22.le hM_33
        replace hv_28 := hv_28.le hM_33
        replace hv_32 := hv_32.le hM_33
        refine WL_guard_yes E rfl rfl ?_
        refine S_v E rfl (R_not E rfl) rfl ?_
        clear E a; intro a E
        refine S_v E rfl (R_pickF E rfl rfl) rfl ?_
        clear E a; intro a E
        refine S_v E rfl (R_move E rfl) rfl ?_
        clear E a; intro a E
        have hc_34 : (!(decide ((chunkR n1 l0).flatten = l0))) = false := by (clear S E; first | (simp; done) | decide | (simp [chunkR, chL, chS, chF]; done) | (first | refine dec_t ?_ | refine dec_f ?_ | skip); first | omega | (rw [hcq]; done) | rfl | (rw [hcq, chL_flat]; done) | (rw [hcq]; exact chL_flat _ _) | (rw [hcq]; rfl) | (refine decide_eq_false ?_; omega) | (refine decide_eq_true ?_; omega) | (simp only [Bool.not_eq_true', decide_eq_false_iff_not]; omega) | (rw [hcq, chL_flat]; simp; done) | (have h9 := chL_at (l := l0) hn (show (chL n1 l0)[_]? = some _ by rw [← hcq]; assumption); rw [← hcq] at h9; refine decide_eq_false ?_; omega))
        replace E := E.val (t := 89) rfl hc_34
        replace E := E.val (t := 90) rfl hc_34
        replace E := E.val (t := 91) rfl hc_34
        refine WL_guard_yes E rfl rfl ?_
        refine S_v E rfl (R_move E rfl) rfl ?_
        clear E a; intro a E
        refine WL_guard_yes E rfl rfl ?_
        refine S_x (X_pu E S rfl rfl rfl (impl_FlattenSeq hv_14 (by first | (rw [hcq, ← flatten_len, chL_flat]; omega) | (rw [hcq]; omega) | first | omega | decide | (simp only [List.nil_append]; omega) | (simp; omega)) (by first | (rw [hcq, ← flatten_len, chL_flat]; omega) | (rw [hcq]; omega) | first | omega | decide | (simp only [List.nil_append]; omega) | (simp; omega))) (Hp.le.refl _) ?_)
        clear E a S; rintro a v_36 w M_35 hM_35 hv_36 S E
        replace h0 := h0.le hM_35
        replace hz_4 := hz_4.le hM_35
        replace hv_6 := hv_6.le hM_35
        replace hv_9 := hv_9.le hM_35
        replace hv_14 := hv_14.le hM_35
        replace hv_16 := hv_16.le hM_35
        replace hv_22 := hv_22.le hM_35
        replace hv_28 := hv_28.le hM_35
        replace hv_32 := hv_32.le hM_35
        refine WL_guard_yes E rfl rfl ?_
        refine S_v E rfl (R_move E rfl) rfl ?_
        clear E a; intro a E
        refine WL_guard_yes E rfl rfl ?_
        refine S_x (X_pu E S rfl rfl rfl (laws_eq hv_36 h0) (Hp.le.refl _) ?_)
        clear E a S; rintro a _ w M_37 hM_37 rfl S E
        replace h0 := h0.le hM_37
        replace hz_4 := hz_4.le hM_37
        replace hv_6 := hv_6.le hM_37
        replace hv_9 := hv_9.le hM_37
        replace hv_14 := hv_14.le hM_37
        replace hv_16 := hv_16.le hM_37
        replace hv_22 := hv_22.le hM_37
        replace hv_28 := hv_28.le hM_37
        replace hv_32 := hv_32.le hM_37
        replace hv_36 := hv_36.le hM_37
        refine WL_guard_yes E rfl rfl ?_
        refine S_v E rfl (R_not E rfl) rfl ?_
        clear E a; intro a E
        refine S_v E rfl (R_pickF E rfl rfl) rfl ?_
        clear E a; intro a E
        refine WL_nil ?_
        refine T_n ?_
        have hc_38 : (!(decide ((chunkR n1 l0).flatten = l0))) = false := by (clear S E; first | (simp; done) | decide | (simp [chunkR, chL, chS, chF]; done) | (first | refine dec_t ?_ | refine dec_f ?_ | skip); first | omega | (rw [hcq]; done) | rfl | (rw [hcq, chL_flat]; done) | (rw [hcq]; exact chL_flat _ _) | (rw [hcq]; rfl) | (refine decide_eq_false ?_; omega) | (refine decide_eq_true ?_; omega) | (simp only [Bool.not_eq_true', decide_eq_false_iff_not]; omega) | (rw [hcq, chL_flat]; simp; done) | (have h9 := chL_at (l := l0) hn (show (chL n1 l0)[_]? = some _ by rw [← hcq]; assumption); rw [← hcq] at h9; refine decide_eq_false ?_; omega))
        refine WP_condF E rfl hc_38 ?_
        refine WP_skip ?_
        refine T_n ?_
        refine WP_seq ?_
        refine WP_seq ?_
        refine WP_region ?_
        refine S_v E rfl (R_move E rfl) rfl ?_
        clear E a; intro a E
        refine S_v E rfl (R_move E rfl) rfl ?_
        clear E a; intro a E
        refine S_x (X_pu E S rfl rfl rfl (spec_Chunk h0 (by first | omega | (simp; done) | (simp; omega)) (by first | omega | (simp; done) | (simp; omega)) (by first | omega | (simp; done) | (simp; omega))) (Hp.le.refl _) ?_)
        clear E a S; rintro a _ w M_39 hM_39 ⟨v_40, rfl, hv_40⟩ S E
        replace h0 := h0.le hM_39
        replace hz_4 := hz_4.le hM_39
        replace hv_6 := hv_6.le hM_39
        replace hv_9 := hv_9.le hM_39
        replace hv_14 := hv_14.le hM_39
        replace hv_16 := hv_16.le hM_39
        replace hv_22 := hv_22.le hM_39
        replace hv_28 := hv_28.le hM_39
        replace hv_32 := hv_32.le hM_39
        replace hv_36 := hv_36.le hM_39
        refine S_v E rfl (R_move E rfl) rfl ?_
        clear E a; intro a E
        refine S_v E rfl (R_extract E rfl rfl) rfl ?_
        clear E a; intro a E
        refine S_v E rfl (R_extract E rfl rfl) rfl ?_
        clear E a; intro a E
        refine S_v E rfl (R_assign E rfl) rfl ?_
        clear E a; intro a E
        refine S_v E rfl (R_assign E rfl) rfl ?_
        clear E a; intro a E
        refine WL_nil ?_
        refine T_n ?_
        refine WP_seq ?_
        refine WP_region ?_
        refine S_v E rfl (R_move E rfl) rfl ?_
        clear E a; intro a E
        refine S_v E rfl (R_not E rfl) rfl ?_
        clear E a; intro a E
        refine S_v E rfl (R_move E rfl) rfl ?_
        clear E a; intro a E
        refine WL_guard_yes E rfl rfl ?_
        refine S_v E rfl (R_move E rfl) rfl ?_
        clear E a; intro a E
        refine WL_guard_yes E rfl rfl ?_
        refine S_v E rfl (R_move E rfl) rfl ?_
        clear E a; intro a E
        refine WL_guard_yes E rfl rfl ?_
        refine S_x (X_pu E S rfl rfl rfl (laws_eqLists hv_14 hv_40) (Hp.le.refl _) ?_)
        clear E a S; rintro a _ w M_41 hM_41 rfl S E
        replace h0 := h0.le hM_41
        replace hz_4 := hz_4.le hM_41
        replace hv_6 := hv_6.le hM_41
        replace hv_9 := hv_9.le hM_41
        replace hv_14 := hv_14.le hM_41
        replace hv_16 := hv_16.le hM_41
        replace hv_22 := hv_22.le hM_41
        replace hv_28 := hv_28.le hM_41
        replace hv_32 := hv_32.le hM_41
        replace hv_36 := hv_36.le hM_41
        replace hv_40 := hv_40.le hM_41
        refine WL_guard_yes E rfl rfl ?_
        refine S_v E rfl (R_not E rfl) rfl ?_
        clear E a; intro a E
        refine S_v E rfl (R_pickF E rfl rfl) rfl ?_
        clear E a; intro a E
        refine WL_nil ?_
        refine T_n ?_
        have hc_42 : (!(decide (chunkR n1 l0 = chL n1 l0))) = false := by (clear S E; first | (simp; done) | decide | (simp [chunkR, chL, chS, chF]; done) | (first | refine dec_t ?_ | refine dec_f ?_ | skip); first | omega | (rw [hcq]; done) | rfl | (rw [hcq, chL_flat]; done) | (rw [hcq]; exact chL_flat _ _) | (rw [hcq]; rfl) | (refine decide_eq_false ?_; omega) | (refine decide_eq_true ?_; omega) | (simp only [Bool.not_eq_true', decide_eq_false_iff_not]; omega) | (rw [hcq, chL_flat]; simp; done) | (have h9 := chL_at (l := l0) hn (show (chL n1 l0)[_]? = some _ by rw [← hcq]; assumption); rw [← hcq] at h9; refine decide_eq_false ?_; omega))
        refine WP_condF E rfl hc_42 ?_
        refine WP_skip ?_
        refine T_n ?_
        refine WP_seq ?_
        refine WP_seq ?_
        refine WP_region ?_
        refine S_v E rfl (R_move E rfl) rfl ?_
        clear E a; intro a E
        refine S_v E rfl (R_lenV E rfl T34 hv_14.len) rfl ?_
        clear E a; intro a E
        refine S_v E rfl (R_move E rfl) rfl ?_
        clear E a; intro a E
        refine WL_nil ?_
        refine T_n ?_
        refine WP_block ?_
        refine WP_loop (γ := Nat) (fun (k : Nat) a w => ∃ (M_43 : Hp), Hp.le M_41 M_43 ∧ St w M_43 (H) ∧ Env a 142 [] [(7, .int .i64 ((n1 : Nat) : Int)), (8, v_14), (112, v_14), (113, .int .i64 (((chunkR n1 l0).length : Nat) : Int)), (114, .int .i64 ((k : Nat) : Int))] ∧ (k ≤ (chunkR n1 l0).length)) (fun k => ((chunkR n1 l0).length) - k) 0 ⟨M_41, Hp.le.refl _, S, E.keep ⟨rfl, rfl, rfl, rfl, rfl, trivial⟩, by ((try clear S); (try clear E); first | assumption | omega | rfl | (simp; done) | (simp_all; done) | (simp [List.take_add_one, *]; done) | grind [List.take_add_one])⟩ ?_
        try clear E
        try clear S
        try clear a
        try clear w
        rintro k a w ⟨M_43, hM_43, S, E, hL0_0⟩
        replace h0 := h0.le hM_43
        replace hz_4 := hz_4.le hM_43
        replace hv_6 := hv_6.le hM_43
        replace hv_9 := hv_9.le hM_43
        replace hv_14 := hv_14.le hM_43
        replace hv_16 := hv_16.le hM_43
        replace hv_22 := hv_22.le hM_43
        replace hv_28 := hv_28.le hM_43
        replace hv_32 := hv_32.le hM_43
        replace hv_36 := hv_36.le hM_43
        replace hv_40 := hv_40.le hM_43
        skip
        refine WP_seq ?_
        refine WP_region ?_
        refine S_v E rfl (R_lss E rfl rfl) rfl ?_
        clear E a; intro a E
        refine WL_nil ?_
        refine T_n ?_
        refine WP_seq ?_
        refine WP_cond E rfl (fun hc_44 => ?_) (fun hc_44 => ?_)
        · replace hc_44 := of_decide_eq_true hc_44
          refine WP_skip ?_
          refine T_n ?_
          refine WP_seq ?_
          refine WP_block ?_
          refine WP_seq ?_
          refine WP_region ?_
          refine S_v E rfl (R_move E rfl) rfl ?_
          clear E a; intro a E
          obtain ⟨x_45, hx_45⟩ : ∃ x, (chunkR n1 l0)[k]? = some x := ⟨_, List.getElem?_eq_getElem (by first | omega | (simp; done) | (simp; omega) | (simp_all; omega))⟩
          obtain ⟨p_46, u_47, hp_46, qp_46, hu_47⟩ := hv_14.at hx_45
          have bu_47 := hu_47.bound
          refine S_v E rfl (R_idx E rfl rfl T34 hp_46 rfl) rfl ?_
          clear E a; intro a E
          refine S_v E rfl (R_loadM E rfl Try.isAgg33 S.imm qp_46) rfl ?_
          clear E a; intro a E
          refine S_v E rfl (R_assign E rfl) rfl ?_
          clear E a; intro a E
          refine S_v E rfl (R_assign E rfl) rfl ?_
          clear E a; intro a E
          refine WL_nil ?_
          refine T_n ?_
          refine WP_seq ?_
          refine WP_region ?_
          refine S_v E rfl (R_move E rfl) rfl ?_
          clear E a; intro a E
          refine S_v E rfl (R_lenV E rfl T33 hu_47.len) rfl ?_
          clear E a; intro a E
          refine S_v E rfl (R_move E rfl) rfl ?_
          clear E a; intro a E
          refine S_v E rfl (R_neq E rfl rfl) rfl ?_
          clear E a; intro a E
          refine S_v E rfl (R_move E rfl) rfl ?_
          clear E a; intro a E
          refine split_bool (decide ((((x_45).length : Nat) : Int) ≠ ((n1 : Nat) : Int))) (fun hc_48 => ?_) (fun hc_48 => ?_)
          · replace E := E.val (t := 122) rfl hc_48
            replace E := E.val (t := 123) rfl hc_48
            replace hc_48 := of_decide_eq_true hc_48
            refine WL_guard_yes E rfl rfl ?_
            refine S_v E rfl (R_move E rfl) rfl ?_
            clear E a; intro a E
            refine WL_guard_yes E rfl rfl ?_
            refine S_v E rfl (R_move E rfl) rfl ?_
            clear E a; intro a E
            refine WL_guard_yes E rfl rfl ?_
            refine S_v E rfl (R_lenV E rfl T34 hv_14.len) rfl ?_
            clear E a; intro a E
            refine WL_guard_yes E rfl rfl ?_
            refine S_v E rfl (R_subx (m := (((chunkR n1 l0).length - 1 : Nat) : Int)) E rfl rfl (by omega) (by omega)) rfl ?_
            clear E a; intro a E
            refine WL_guard_yes E rfl rfl ?_
            refine S_v E rfl (R_lss E rfl rfl) rfl ?_
            clear E a; intro a E
            refine WL_guard_yes E rfl rfl ?_
            refine S_v E rfl (R_move E rfl) rfl ?_
            clear E a; intro a E
            have hc_49 : (decide (((k : Nat) : Int) < (((chunkR n1 l0).length - 1 : Nat) : Int))) = false := by (clear S E; first | (simp; done) | decide | (simp [chunkR, chL, chS, chF]; done) | (first | refine dec_t ?_ | refine dec_f ?_ | skip); first | omega | (rw [hcq]; done) | rfl | (rw [hcq, chL_flat]; done) | (rw [hcq]; exact chL_flat _ _) | (rw [hcq]; rfl) | (refine decide_eq_false ?_; omega) | (refine decide_eq_true ?_; omega) | (simp only [Bool.not_eq_true', decide_eq_false_iff_not]; omega) | (rw [hcq, chL_flat]; simp; done) | (have h9 := chL_at (l := l0) hn (show (chL n1 l0)[_]? = some _ by rw [← hcq]; assumption); rw [← hcq] at h9; refine decide_eq_false ?_; omega))
            replace E := E.val (t := 128) rfl hc_49
            replace E := E.val (t := 129) rfl hc_49
            refine WL_guard_yes E rfl rfl ?_
            refine S_v E rfl (R_move E rfl) rfl ?_
            clear E a; intro a E
            refine WL_guard_yes E rfl rfl ?_
            refine S_v E rfl (R_lenV E rfl T33 hu_47.len) rfl ?_
            clear E a; intro a E
            refine WL_guard_yes E rfl rfl ?_
            refine S_v E rfl (R_eql E rfl rfl) rfl ?_
            clear E a; intro a E
            refine WL_guard_yes E rfl rfl ?_
            refine S_v E rfl (R_pickF E rfl rfl) rfl ?_
            clear E a; intro a E
            refine WL_guard_yes E rfl rfl ?_
            refine S_v E rfl (R_move E rfl) rfl ?_
            clear E a; intro a E
            have hc_50 : (decide ((((x_45).length : Nat) : Int) = 0)) = false := by (clear S E; first | (simp; done) | decide | (simp [chunkR, chL, chS, chF]; done) | (first | refine dec_t ?_ | refine dec_f ?_ | skip); first | omega | (rw [hcq]; done) | rfl | (rw [hcq, chL_flat]; done) | (rw [hcq]; exact chL_flat _ _) | (rw [hcq]; rfl) | (refine decide_eq_false ?_; omega) | (refine decide_eq_true ?_; omega) | (simp only [Bool.not_eq_true', decide_eq_false_iff_not]; omega) | (rw [hcq, chL_flat]; simp; done) | (have h9 := chL_at (l := l0) hn (show (chL n1 l0)[_]? = some _ by rw [← hcq]; assumption); rw [← hcq] at h9; refine decide_eq_false ?_; omega))
            replace E := E.val (t := 132) rfl hc_50
            replace E := E.val (t := 133) rfl hc_50
            replace E := E.val (t := 134) rfl hc_50
            refine WL_guard_yes E rfl rfl ?_
            refine S_v E rfl (R_move E rfl) rfl ?_
            clear E a; intro a E
            refine WL_guard_yes E rfl rfl ?_
            refine S_v E rfl (R_lenV E rfl T33 hu_47.len) rfl ?_
            clear E a; intro a E
            refine WL_guard_yes E rfl rfl ?_
            refine S_v E rfl (R_move E rfl) rfl ?_
            clear E a; intro a E
            refine WL_guard_yes E rfl rfl ?_
            refine S_v E rfl (R_gtr E rfl rfl) rfl ?_
            clear E a; intro a E
            refine WL_guard_yes E rfl rfl ?_
            refine S_v E rfl (R_pickF E rfl rfl) rfl ?_
            clear E a; intro a E
            refine S_v E rfl (R_pickT E rfl rfl) rfl ?_
            clear E a; intro a E
            refine WL_nil ?_
            refine T_n ?_
            have hc_51 : (decide (((n1 : Nat) : Int) < (((x_45).length : Nat) : Int))) = false := by (clear S E; first | (simp; done) | decide | (simp [chunkR, chL, chS, chF]; done) | (first | refine dec_t ?_ | refine dec_f ?_ | skip); first | omega | (rw [hcq]; done) | rfl | (rw [hcq, chL_flat]; done) | (rw [hcq]; exact chL_flat _ _) | (rw [hcq]; rfl) | (refine decide_eq_false ?_; omega) | (refine decide_eq_true ?_; omega) | (simp only [Bool.not_eq_true', decide_eq_false_iff_not]; omega) | (rw [hcq, chL_flat]; simp; done) | (have h9 := chL_at (l := l0) hn (show (chL n1 l0)[_]? = some _ by rw [← hcq]; assumption); rw [← hcq] at h9; refine decide_eq_false ?_; omega))
            refine WP_condF E rfl hc_51 ?_
            refine WP_skip ?_
            refine B_n ?_
            refine T_n ?_
            refine WP_region ?_
            refine S_v E rfl (R_addx (m := ((k + 1 : Nat) : Int)) E rfl rfl (by omega) (by omega)) rfl ?_
            clear E a; intro a E
            refine S_v E rfl (R_move E rfl) rfl ?_
            clear E a; intro a E
            refine WL_nil ?_
            refine T_n ?_
            exact ⟨k + 1, ⟨M_43, hM_43, S, E.keep ⟨rfl, rfl, rfl, rfl, rfl, trivial⟩, by ((try clear S); (try clear E); first | assumption | omega | rfl | (simp; done) | (simp_all; done) | (simp [List.take_add_one, *]; done) | grind [List.take_add_one])⟩, by omega⟩
          · replace E := E.val (t := 122) rfl hc_48
            replace E := E.val (t := 123) rfl hc_48
            replace hc_48 := of_decide_eq_false hc_48
            refine WL_guard_no E rfl rfl rfl rfl fun a E => ?_
            refine WL_guard_no E rfl rfl rfl rfl fun a E => ?_
            refine WL_guard_no E rfl rfl rfl rfl fun a E => ?_
            refine WL_guard_no E rfl rfl rfl rfl fun a E => ?_
            refine WL_guard_no E rfl rfl rfl rfl fun a E => ?_
            refine WL_guard_no E rfl rfl rfl rfl fun a E => ?_
            refine WL_guard_un E rfl rfl rfl fun a E => ?_
            refine WL_guard_un E rfl rfl rfl fun a E => ?_
            refine WL_guard_un E rfl rfl rfl fun a E => ?_
            refine WL_guard_no E rfl rfl rfl rfl fun a E => ?_
            refine WL_guard_no E rfl rfl rfl rfl fun a E => ?_
            refine WL_guard_un E rfl rfl rfl fun a E => ?_
            refine WL_guard_un E rfl rfl rfl fun a E => ?_
            refine WL_guard_un E rfl rfl rfl fun a E => ?_
            refine WL_guard_un E rfl rfl rfl fun a E => ?_
            refine WL_guard_no E rfl rfl rfl rfl fun a E => ?_
            refine S_v E rfl (R_pickF E rfl rfl) rfl ?_
            clear E a; intro a E
            refine WL_nil ?_
            refine T_n ?_
            refine WP_condF E rfl rfl ?_
            refine WP_skip ?_
            refine B_n ?_
            refine T_n ?_
            refine WP_region ?_
            refine S_v E rfl (R_addx (m := ((k + 1 : Nat) : Int)) E rfl rfl (by omega) (by omega)) rfl ?_
            clear E a; intro a E
            refine S_v E rfl (R_move E rfl) rfl ?_
            clear E a; intro a E
            refine WL_nil ?_
            refine T_n ?_
            exact ⟨k + 1, ⟨M_43, hM_43, S, E.keep ⟨rfl, rfl, rfl, rfl, rfl, trivial⟩, by ((try clear S); (try clear E); first | assumption | omega | rfl | (simp; done) | (simp_all; done) | (simp [List.take_add_one, *]; done) | grind [List.take_add_one])⟩, by omega⟩
        · replace hc_44 := of_decide_eq_false hc_44
          refine WP_exit ?_
          refine T_x ?_
          refine T_x ?_
          refine B_x ?_
          refine T_n ?_
          refine WP_seq ?_
          refine WP_region ?_
          refine S_v E rfl (R_assign E rfl) rfl ?_
          clear E a; intro a E
          refine WL_nil ?_
          refine T_n ?_
          refine WP_ret ?_
          exact F_ret1 E Try.results5 rfl ⟨_, rfl, M_43, (hM_3.trans (hM_5.trans (hM_10.trans (hM_11.trans (hM_13.trans (hM_15.trans (hM_21.trans (hM_23.trans (hM_25.trans (hM_27.trans (hM_29.trans (hM_31.trans (hM_33.trans (hM_35.trans (hM_37.trans (hM_39.trans (hM_41.trans hM_43))))))))))))))))), rfl, S⟩
theorem laws_FnChunks2 {M : Hp} {v0 : Value} {l0 : List Int} (h0 : RdI M v0 l0) {x1 : Int} (g1 : 0 ≤ x1 ∧ x1 ≤ 255) : PuC Try.prog 5 M [v0, .int .u8 x1] (fun r M' => r = .bool true) := by
  obtain ⟨n1, rfl⟩ := Int.eq_ofNat_of_zero_le g1.1
  exact laws_FnChunks h0 (by omega)

end Go.Proofs.Ytjadmhlojchapaa.wFnChunks
