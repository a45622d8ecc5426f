import Derived.Test.YtejfcglfjdfneaaSlR
import Derived.RecoverIn
/-! A function that defers a look at a panic, where there is none. -/
set_option linter.unusedVariables false
namespace Go.Sl
open Go
section
variable {P : Program}
theorem recover_none {f : FuncId} {fn : Func} {id : Nat} {d d' : Nat} {ats : Array TypeId} {ty t t' ty' : TypeId} {pos pos' : String} {af af' : Array Edge} {X : Code} {args : Array Value} {w : World} {m : Nat}
    (hf : P.funcs[f]? = some fn)
    (hb : fn.body = some (.seq (.region id #[⟨some d, .call ⟨.builtin .recover, #[], ats⟩, ty, pos, af, none⟩, ⟨some d', .binOp .neq t (.tmp d) (.const .nilIface) t', ty', pos', af', none⟩] false) (.cond (.tmp d') X .skip)))
    (hr : fn.results = #[]) (hm : fn.ntmps = m) (h1 : Nat.blt d m = true) (h2 : Nat.blt d' m = true) (ha : args.size ≤ m)
    (hty : ∀ w, (Op.equal t .nilIface .nilIface).run P w = .ok true w) :
    CallsDIn (Fw none) 0 P f args .returning w (fun e u' w' => ∃ v, e = .returned v ∧ u' = .returning ∧ w' = w) := by
  refine callsDIn_of_wpSIn hf hb trivial fun c₀ cs hc => ?_
  subst hm
  have hd : d < fn.ntmps := by simpa using h1
  have hd' : d' < fn.ntmps := by simpa using h2
  have hsz : (args ++ Array.replicate (fn.ntmps - args.size) undef).size = fn.ntmps := by simp; omega
  refine wpSIn_seq (wpSIn_region ?_)
  generalize hA : (args ++ Array.replicate (fn.ntmps - args.size) undef) = A at hsz ⊢
  have e2 : ((A.setIfInBounds d Value.nilIface).setIfInBounds d' (.bool false))[d']? = some (.bool false) := by
    rw [Array.getElem?_setIfInBounds]; simp [hsz, hd']
  have hrec : recoverD (c₀ :: cs) = none := by simp [recoverD, hc]
  have e1 : (A.setIfInBounds d Value.nilIface).getD d undef = .nilIface := by
    simp [hsz, hd]
  have hrun : (execOp (Act.eval ⟨A.setIfInBounds d .nilIface, []⟩) ⟨some d', .binOp .neq t (.tmp d) (.const .nilIface) t', ty', pos', af', none⟩).run P w = .ok (.value (.bool false)) w := by
    simp only [execOp, Act.eval, e1]
    simp [eqGuard, binOp, hty]
  have hr1 : (execOp (Act.eval ⟨A, []⟩) ⟨some d, .call ⟨.builtin .recover, #[], ats⟩, ty, pos, af, none⟩).run P w = .ok .recover w := by
    simp [execOp, resolve, invoke, builtin]
  show wpOpsSIn _ _ _ _ _ [0, 1] _ _ _
  simp only [wpOpsSIn]
  refine ⟨fun _ _ => trivial, ?_⟩
  rw [if_pos (by simp [Region.wanted])]
  erw [hr1]
  simp only [hrec]
  refine ⟨fun _ _ => trivial, ?_⟩
  rw [if_pos (by simp [Region.wanted])]
  erw [hrun]
  refine wpSIn_cond (t := false) ?_ ?_
  · simp [Act.eval, Act.put, e2]
  · exact wpSIn_of_wpIn rfl (wpIn_skip ⟨rfl, .returning, by cases c₀; simp_all, _, results_none hr _ _ _, _, rfl, rfl, rfl⟩)
theorem run_eq_nilIface {t : TypeId} {ms : Array (String × TypeId)} (h : P.underlying t = some (.interface ms)) (w : World) : (Op.equal t .nilIface .nilIface).run P w = .ok true w := by
  have h' : ∀ m, (Op.equalIn (m + 1) t .nilIface .nilIface).run P w = .ok true w := fun m => by simp [Op.equalIn, underlying, h]
  exact h' 9999
variable {ops : Array Oper} {Q : Exit → Act → World → Prop} {a : Act} {w : World} {rest : List Oper} {n : Nat} {ds : List Deferred} {l : List (Nat × Value)} {fn : Func} {R : Ending → World → Prop} {M : Hp} {H : List HProp}
theorem S_defer {f : Operand} {ats : Array TypeId} {ty : TypeId} {pos : String} {af : Array Edge} {g : Fn} {cap : Array Value} (E : Env a n ds l) (hx : opv l f = some (.func g #[] cap))
    (k : ∀ a, Env a n (⟨.fn g cap, #[]⟩ :: ds) l → WL none P ops Q rest a w) : WL none P ops Q (⟨none, .defer ⟨.value f, #[], ats⟩, ty, pos, af, none⟩ :: rest) a w := by
  refine WL_op rfl ⟨fun _ _ => trivial, ?_⟩
  have hr : (execOp a.eval ⟨none, .defer ⟨.value f, #[], ats⟩, ty, pos, af, none⟩).run P w = .ok (.defer ⟨.fn g cap, #[]⟩) w := by
    simp [execOp, resolve, E.eval hx, Deferred.ofValue]
  rw [show (Fw none).round = none from rfl, Oper.semAt_none]
  rw [hr]
  refine k _ ⟨E.size, ?_, E.get⟩
  show (⟨.fn g cap, #[]⟩ :: a.defers : List Deferred) = _
  rw [E.dfr]
theorem F_retDC2 {g : FuncId} {cap : Array Value} {t t' : Tmp} {ty ty' e e' : TypeId} {b b' : Nat} {v v' : Value} (E : Env a n [⟨.fn (.func g) cap, #[]⟩] l) (S : St w M (blk b (.cells #[v] e) :: blk b' (.cells #[v'] e') :: H)) (h : fn.results = #[.cell t ty, .cell t' ty'])
    (hp : look l t = some (.pointer (some ⟨b, 0, none⟩))) (hp' : look l t' = some (.pointer (some ⟨b', 0, none⟩))) (hg : ∀ w, (isAgg ty).run P w = .ok false w) (hg' : ∀ w, (isAgg ty').run P w = .ok false w)
    (hc : ∀ args w, (callFunc g args).run P w = .ok (.enter g args) w) (hD : ∀ w, CallsDIn (Fw none) 0 P g cap .returning w (fun e u' w' => ∃ v, e = .returned v ∧ u' = .returning ∧ w' = w))
    (hR : R (.returned (.tuple #[v, v'])) w) : FPost P fn R .ret a w := by
  show LeavesInM _ _ _ _ _ _ a.defers .returning w
  rw [E.dfr]
  refine ⟨by simp, .inr ⟨by simp [Fw, Fence.wide], .func g, cap, g, cap, rfl, by simp [invoke, hc], fun _ _ => trivial, (hD w).mono ?_⟩⟩
  rintro _ _ _ ⟨v0, rfl, rfl, rfl⟩
  refine ⟨.tuple #[v, v'], ?_, hR⟩
  have h1 := E.eval (o := .tmp t) hp
  have h2 := E.eval (o := .tmp t') hp'
  simp only [Act.eval, Array.getD_eq_getD_getElem?] at h1 h2
  simp [results, h, h1, h2, asAddr, run_cellvar hg S.get, run_cellvar hg' S.swap.get]
def PF0L (P : Program) (fv : Value) (M : Hp) (l : List Int) : Prop := fv.oneCell' = true ∧ Pu P fv M [] (fun r M' => RdI M' r l)
def PF0M (P : Program) (fv : Value) (M : Hp) (l : List (List Int)) : Prop := fv.oneCell' = true ∧ Pu P fv M [] (fun r M' => RdII M' r l)
theorem PF0L.le {fv : Value} {M M' : Hp} {f : List Int} (h : PF0L P fv M f) (hM : Hp.le M M') : PF0L P fv M' f := ⟨h.1, h.2.le hM⟩
theorem PF0M.le {fv : Value} {M M' : Hp} {f : List (List Int)} (h : PF0M P fv M f) (hM : Hp.le M M') : PF0M P fv M' f := ⟨h.1, h.2.le hM⟩
end
theorem wf_u8 {n : Int} (h : (Lit.int .u8 n).wf = true) : 0 ≤ n ∧ n ≤ 255 := by
  simp [Lit.wf, IntKind.min, IntKind.max, IntKind.signed, IntKind.bits] at h; omega
theorem wf_i16 {n : Int} (h : (Lit.int .i16 n).wf = true) : -32768 ≤ n ∧ n ≤ 32767 := by
  simp [Lit.wf, IntKind.min, IntKind.max, IntKind.signed, IntKind.bits] at h; omega
theorem wf_u16 {n : Int} (h : (Lit.int .u16 n).wf = true) : 0 ≤ n ∧ n ≤ 65535 := by
  simp [Lit.wf, IntKind.min, IntKind.max, IntKind.signed, IntKind.bits] at h; omega
section
variable {r : Option Nat} {P : Program} {Q : Exit → Act → World → Prop} {a : Act} {w : World}
  {n : Nat} {ds : List Deferred} {l : List (Nat × Value)} {d : Nat} {ty t t' el : TypeId} {pos : String} {af : Array Edge} {gd : Option (Nat × Bool)} {x y : Operand}
  {next : Act → World → Prop} {M : Hp} {H : List HProp} {zv v sv : Value} {xs ys : List Int}
theorem copy_list (xs ys : List Int) : ys.take (min ys.length xs.length) ++ xs.drop (min ys.length xs.length) = ys.take xs.length ++ xs.drop ys.length := by
  by_cases h : ys.length ≤ xs.length
  · rw [Nat.min_eq_left h, List.take_length, List.take_of_length_le h]
  · rw [Nat.min_eq_right (by omega), List.drop_length, List.drop_eq_nil_of_le (by omega)]
theorem X_copyI (E : Env a n ds l) (S : St w M (OwnI el v xs :: H)) (hd : Nat.blt d n = true) (hx : opv l x = some v) (hy : opv l y = some sv) (T : SlT P t el 1 8 zv) (src : RdI M sv ys)
    (kk : ∀ a w', Env a n ds ((d, .int .i64 ((min ys.length xs.length : Nat) : Int)) :: l) → St w' M (OwnI el v (ys.take xs.length ++ xs.drop ys.length) :: H) → next a w') : (⟨some d, .call ⟨.builtin .copy, #[x, y], #[t, t']⟩, ty, pos, af, gd⟩ : Oper).wpIn (Fw r) 0 P a w next Q := by
  obtain ⟨hxl, hc⟩ := S.ownCases
  have hsz := T.sizeOf w
  have hsrc := Src.rdI S.imm src
  obtain ⟨A, c, rfl, hlc, _⟩ := src
  have hf : (Builtin.firstCells 1 (min ys.length xs.length) (.slice A ys.length c)).run P w = .ok ((ys.take (min ys.length xs.length)).map (Value.int .i64)).toArray w := by
    rcases hsrc with ⟨b, c', e, hnews⟩ | ⟨c', e, hm⟩
    · cases e
      refine run_firstCells_some w 1 _ b _ _ _ (by simp) fun j u hj => hnews j u ?_
      rw [List.map_take, List.getElem?_take] at hj
      split at hj
      · exact hj
      · cases hj
    · cases e
      have : ys = [] := List.eq_nil_of_length_eq_zero hm
      subst this; simp [Builtin.firstCells]
  rcases hc with ⟨rfl, hm, s0⟩ | ⟨g, cap, cur, rfl, s0, hmc, hcm, hcs, htake⟩
  · have : xs = [] := List.eq_nil_of_length_eq_zero (by simpa using hm)
    subst this
    refine X_val E hd rfl (v := .int .i64 ((min ys.length 0 : Nat) : Int)) (w' := w) ?_ fun a E => kk a _ E (by simpa using S)
    simp only [execOp, resolve, invoke, builtin]
    simp only [List.length_nil] at hf
    simp [E.eval hx, E.eval hy, Builtin.copy_, run_underlying T.und, Builtin.lenOf, hsz, goInt]
    have hf' : (Builtin.firstCells 1 0 (.slice A ys.length c)).run P w = .ok #[] w := by simpa using hf
    simp [hf', Result.andThen]
  · obtain ⟨w', r1, r2, r3, r4⟩ := run_storeCells (P := P) ((ys.take (min ys.length xs.length)).map (Value.int .i64)) 0 cur w s0.get (by simp; omega) (oneCell_ints _)
    refine X_val E hd rfl (v := .int .i64 ((min ys.length xs.length : Nat) : Int)) (w' := w') ?_ fun a E => kk a _ E ?_
    · simp only [execOp, resolve, invoke, builtin]
      rw [List.map_take] at r1
      simp [E.eval hx, E.eval hy, Builtin.copy_, run_underlying T.und, Builtin.lenOf, hsz, goInt, hf, r1, Result.andThen]
    · have s1 := s0.set (o' := .cells (cur.toList.take 0 ++ (ys.take (min ys.length xs.length)).map (Value.int .i64) ++ cur.toList.drop (0 + ((ys.take (min ys.length xs.length)).map (Value.int .i64)).length)).toArray el) r2 (fun c hc x hx => by rw [r3 c hc]; exact hx) r4
      have hlen : (ys.take xs.length ++ xs.drop ys.length).length = xs.length := by simp; omega
      show St w' M (OwnC el 1 _ _ _ :: H)
      rw [hlen]
      refine s1.ownOf (by simp; omega) hmc hcm (by simp; omega) ?_
      rw [← copy_list, List.map_append]
      simp only [List.take_zero, List.nil_append, Nat.zero_add, List.length_map, List.length_take, Nat.mul_one] at htake ⊢
      rw [show min (min ys.length xs.length) ys.length = min ys.length xs.length by omega]
      rw [List.take_append, List.take_of_length_le (by simp; omega)]
      congr 1
      simp only [List.length_map, List.length_take]
      rw [show min (min ys.length xs.length) ys.length = min ys.length xs.length by omega, List.map_drop, ← htake, List.drop_take]
end
theorem tmod_nat {a : Nat} {c : Int} (h : 0 < c) : Int.tmod (a : Int) c = ((a % c.toNat : Nat) : Int) := by
  obtain ⟨m, rfl⟩ : ∃ m : Nat, c = m := ⟨c.toNat, by omega⟩
  rfl
theorem R_remm {P : Program} {a : Act} {w : World} {n : Nat} {ds : List Deferred} {l : List (Nat × Value)} {d : Nat} {ty t t' : TypeId} {pos : String} {af : Array Edge} {gd : Option (Nat × Bool)} {x y : Operand} {κ : IntKind} {i j m : Int}
    (E : Env a n ds l) (hx : opv l x = some (.int κ i)) (hy : opv l y = some (.int κ j)) (hj : j ≠ 0) (hm : Int.tmod i j = m) :
    (execOp a.eval ⟨some d, .binOp .rem t x y t', ty, pos, af, gd⟩).run P w = .ok (.value (.int κ m)) w := by rw [← hm]; exact R_rem E hx hy hj
theorem e_remm {P : Program} {a : Act} {w : World} {n : Nat} {ds : List Deferred} {l : List (Nat × Value)} {d : Nat} {ty t t' : TypeId} {pos : String} {af : Array Edge} {x y : Operand} {κ : IntKind} {i j m : Int} (E : Env a n ds l) (hx : opv l x = some (.int κ i)) (hy : opv l y = some (.int κ j)) (hj : j ≠ 0) (hm : Int.tmod i j = m) {r0 : Option Nat} {os0 : Array Oper} {Q0 : Exit → Act → World → Prop} {rest0 : List Oper} (k0 : ∀ a, Env a n ds ((d, (.int κ m)) :: l) → WL r0 P os0 Q0 rest0 a w) (hd0 : Nat.blt d n = true := by rfl) : WL r0 P os0 Q0 (⟨some d, .binOp .rem t x y t', ty, pos, af, none⟩ :: rest0) a w := O_val E hd0 rfl (R_remm E hx hy hj hm) k0
theorem delK_encS (s : List Int) (k : Int) : delK (encS s) k = encS (s.filter fun x => decide (x ≠ k)) := by
  unfold delK encS; rw [List.filter_map]; rfl
theorem delK_encE {β : Type} (vf : β → Value) (q : List (Int × β)) (k : Int) : delK (encE vf q) k = encE vf (delK q k) := by
  unfold delK encE; rw [List.filter_map]; rfl
section
variable {r : Option Nat} {P : Program} {Q : Exit → Act → World → Prop} {a : Act} {w : World}
  {n : Nat} {ds : List Deferred} {l : List (Nat × Value)} {d : Nat} {ty t kt et : TypeId} {pos : String} {af : Array Edge} {gd : Option (Nat × Bool)} {x y : Operand}
  {next : Act → World → Prop} {M : Hp} {H : List HProp} {zv : Value} {b : Nat} {k : Int}
theorem X_deleteS {s : List Int} (E : Env a n ds l) (S : St w M (OwnS b s :: H)) (hd : Nat.blt d n = true) (T : MapT P t kt et zv) (hx : opv l x = some (.map (some b))) (hy : opv l y = some (.int .i64 k))
    (kk : ∀ a w', Env a n ds ((d, .tuple #[]) :: l) → St w' M (OwnS b (s.filter fun x => decide (x ≠ k)) :: H) → next a w') : (⟨some d, .call ⟨.builtin .delete, #[x, y], #[t, kt]⟩, ty, pos, af, gd⟩ : Oper).wpIn (Fw r) 0 P a w next Q :=
  X_delete E S hd T hx hy fun a w' E S => kk a w' E (by rw [delK_encS] at S; exact S)
theorem X_delete0 {L : List (Int × Value)} (E : Env a n ds l) (S : St w M (OwnM b L :: H)) (T : MapT P t kt et zv) (hx : opv l x = some (.map (some b))) (hy : opv l y = some (.int .i64 k))
    (kk : ∀ a w', Env a n ds l → St w' M (OwnM b (delK L k) :: H) → next a w') : (⟨none, .call ⟨.builtin .delete, #[x, y], #[t, kt]⟩, ty, pos, af, gd⟩ : Oper).wpIn (Fw r) 0 P a w next Q := by
  obtain ⟨es, clock, hb, h, S1⟩ := S.getM
  obtain ⟨es', hr, h'⟩ := run_deleteM (ty := ty) (k := k) T hb h
  have hE : Env (a.put none (.tuple #[])) n ds l := E
  refine wpIn_value (v := .tuple #[]) (w' := { w with heap := w.heap.setIfInBounds b (.map es' clock) }) rfl ?_ (kk _ _ hE ((S1.set (o' := .map es' clock) ?_ ?_).putM h'))
  · simp only [execOp, resolve, invoke, builtin]; simp [E.eval hx, E.eval hy, hr]
  · have := (Array.getElem?_eq_some_iff.1 hb).1; simp [this]
  · intro c hc x hx; simp only [Array.getElem?_setIfInBounds]; rw [if_neg (Ne.symm hc)]; exact hx
theorem X_delete0S {s : List Int} (E : Env a n ds l) (S : St w M (OwnS b s :: H)) (T : MapT P t kt et zv) (hx : opv l x = some (.map (some b))) (hy : opv l y = some (.int .i64 k))
    (kk : ∀ a w', Env a n ds l → St w' M (OwnS b (s.filter fun x => decide (x ≠ k)) :: H) → next a w') : (⟨none, .call ⟨.builtin .delete, #[x, y], #[t, kt]⟩, ty, pos, af, gd⟩ : Oper).wpIn (Fw r) 0 P a w next Q :=
  X_delete0 E S T hx hy fun a w' E S => kk a w' E (by rw [delK_encS] at S; exact S)
theorem X_delete0E {β : Type} {vf : β → Value} {q : List (Int × β)} (E : Env a n ds l) (S : St w M (OwnE vf b q :: H)) (T : MapT P t kt et zv) (hx : opv l x = some (.map (some b))) (hy : opv l y = some (.int .i64 k))
    (kk : ∀ a w', Env a n ds l → St w' M (OwnE vf b (delK q k) :: H) → next a w') : (⟨none, .call ⟨.builtin .delete, #[x, y], #[t, kt]⟩, ty, pos, af, gd⟩ : Oper).wpIn (Fw r) 0 P a w next Q :=
  X_delete0 E S T hx hy fun a w' E S => kk a w' E (by rw [delK_encE] at S; exact S)
end
theorem St.cutI {w : World} {M : Hp} {H : List HProp} {e : TypeId} {v : Value} {xs : List Int} (s : St w M (OwnI e v xs :: H)) {k : Nat} (hk : k ≤ xs.length) : ∃ v', SubV v 0 k 1 v' ∧ St w M (OwnI e v' (xs.take k) :: H) := by
  obtain ⟨hxl, hc⟩ := s.ownCases
  have hlen : (xs.take k).length = k := by simp; omega
  rcases hc with ⟨rfl, hm, s0⟩ | ⟨g, cap, cur, rfl, s0, hmc, hcm, hcs, htake⟩
  · have : xs = [] := List.eq_nil_of_length_eq_zero hm
    subst this
    have hk0 : k = 0 := by simpa using hk
    subst hk0
    exact ⟨.slice none 0 0, ⟨none, 0, 0, rfl, by omega, by omega, by simp⟩, by rw [List.take_nil]; exact (s0.ownNil (e := e) (sz := 1)).made0⟩
  · refine ⟨.slice (some ⟨g, 0, none⟩) k cap, ⟨some ⟨g, 0, none⟩, xs.length, cap, rfl, by omega, by omega, by simp [Addr.add]⟩, ?_⟩
    show St w M (OwnC e 1 _ _ _ :: H)
    rw [hlen]
    refine s0.ownOf (by simp; omega) (by omega) hcm hcs ?_
    rw [List.map_take, ← htake, List.take_take]; congr 1; omega
theorem WP_join {r : Option Nat} {P : Program} {c : Code} {Q : Exit → Act → World → Prop} {a : Act} {w : World} (J : Act → World → Prop)
    (h : WP r P c (fun e a w => (e = .normal ∧ J a w) ∨ (e ≠ .normal ∧ Q e a w)) a w) (k : ∀ a w, J a w → Q .normal a w) : WP r P c Q a w :=
  Go.wpIn_mono h fun e a w h => by
    rcases h with ⟨rfl, h⟩ | ⟨_, h⟩
    · exact k a w h
    · exact h
theorem F_retC3 {P : Program} {fn : Func} {R : Ending → World → Prop} {a : Act} {w : World} {n : Nat} {l : List (Nat × Value)} {M : Hp} {H : List HProp} {Ds : List Nat} {t t' t'' : Tmp} {ty ty' ty'' e e' e'' : TypeId} {b b' b'' : Nat} {v v' v'' : Value} (E : Env a n (Ds.map mk) l) (S : St w M (mks Ds :: blk b (.cells #[v] e) :: blk b' (.cells #[v'] e') :: blk b'' (.cells #[v''] e'') :: H)) (h : fn.results = #[.cell t ty, .cell t' ty', .cell t'' ty''])
    (hp : look l t = some (.pointer (some ⟨b, 0, none⟩))) (hp' : look l t' = some (.pointer (some ⟨b', 0, none⟩))) (hp'' : look l t'' = some (.pointer (some ⟨b'', 0, none⟩))) (hg : ∀ w, (isAgg ty).run P w = .ok false w) (hg' : ∀ w, (isAgg ty').run P w = .ok false w) (hg'' : ∀ w, (isAgg ty'').run P w = .ok false w)
    (hR : ∀ w', St w' M (blk b (.cells #[v] e) :: blk b' (.cells #[v'] e') :: blk b'' (.cells #[v''] e'') :: H) → R (.returned (.tuple #[v, v', v''])) w') : FPost P fn R .ret a w :=
  F_ofMS E S (fun w S => by
    have h1 := E.eval (o := .tmp t) hp
    have h2 := E.eval (o := .tmp t') hp'
    have h3 := E.eval (o := .tmp t'') hp''
    simp only [Act.eval, Array.getD_eq_getD_getElem?] at h1 h2 h3
    simp [results, h, h1, h2, h3, asAddr, run_cellvar hg S.get, run_cellvar hg' S.swap.get, run_cellvar hg'' (St.get (St.swap S.drop))]) hR
theorem F_retM3 {P : Program} {fn : Func} {R : Ending → World → Prop} {a : Act} {w : World} {n : Nat} {l : List (Nat × Value)} {M : Hp} {H : List HProp} {Ds : List Nat} {t t' t'' : Tmp} {v v' v'' : Value} (E : Env a n (Ds.map mk) l) (S : St w M (mks Ds :: H)) (h : fn.results = #[.tmp t, .tmp t', .tmp t'']) (hv : look l t = some v) (hv' : look l t' = some v') (hv'' : look l t'' = some v'') (hR : ∀ w', St w' M H → R (.returned (.tuple #[v, v', v''])) w') : FPost P fn R .ret a w :=
  F_ofM E S (fun w => by rw [results_tmp3' h, E.getD' hv, E.getD' hv', E.getD' hv'']) hR
theorem run_aggvar {P : Program} {w : World} {t e : TypeId} {b : Nat} {cs : List Value} {fr : Nat × Nat} (hg : ∀ w, (isAgg t).run P w = .ok true w) (hs : ∀ w, (sizeOf t).run P w = .ok cs.length w) (hc : w.heap[b]? = some (.cells cs.toArray e fr)) : (loadVar t ⟨b, 0, none⟩).run P w = .ok (.agg cs.toArray) w := by
  have := run_firstCells_some (P := P) w 1 cs.length ⟨b, 0, none⟩ cs.length cs.length cs (by simp) (fun j u hj => by by_cases h0 : j = 0 <;> simp_all [World.cell?, Addr.add])
  simp only [Builtin.firstCells, Nat.mul_one] at this
  simp [loadVar, hg, hs, this]
/-- the result is one struct, in its own cell -/
theorem F_retCG1 {P : Program} {fn : Func} {R : Ending → World → Prop} {a : Act} {w : World} {n : Nat} {l : List (Nat × Value)} {M : Hp} {H : List HProp} {Ds : List Nat} {t : Tmp} {ty e : TypeId} {b : Nat} {cs : List Value} (E : Env a n (Ds.map mk) l) (S : St w M (mks Ds :: blk b (.cells cs.toArray e) :: H)) (h : fn.results = #[.cell t ty]) (hp : look l t = some (.pointer (some ⟨b, 0, none⟩))) (hg : ∀ w, (isAgg ty).run P w = .ok true w) (hs : ∀ w, (sizeOf ty).run P w = .ok cs.length w)
    (hR : ∀ w', St w' M (blk b (.cells cs.toArray e) :: H) → R (.returned (.agg cs.toArray)) w') : FPost P fn R .ret a w :=
  F_ofMS E S (fun w S => by
    have h1 := E.eval (o := .tmp t) hp
    simp only [Act.eval, Array.getD_eq_getD_getElem?] at h1
    simp [results, h, h1, asAddr, run_aggvar hg hs S.get]) hR
theorem SLeq {M : Hp} {v : Value} {l l' : List Int} (h : RdI M v l) (e : l = l') : RdI M v l' := e ▸ h
end Go.Sl
