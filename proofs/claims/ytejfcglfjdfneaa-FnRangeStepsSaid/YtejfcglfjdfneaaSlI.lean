import Derived.Test.YtejfcglfjdfneaaSlH
namespace Go.Sl
open Go
section
variable {w w' : World} {M : Hp} {H : List HProp} {p q : HProp} {c1 c2 c3 c4 c5 c6 c7 : HProp}
theorem St.front1 (s : St w M (c1 :: c2 :: H)) : St w M (c2 :: c1 :: H) := s.swap
theorem St.front2 (s : St w M (c1 :: c2 :: c3 :: H)) : St w M (c3 :: c1 :: c2 :: H) := s.perm (((List.Perm.swap c3 c2 H).cons c1).trans (List.Perm.swap c3 c1 _))
theorem St.front3 (s : St w M (c1 :: c2 :: c3 :: c4 :: H)) : St w M (c4 :: c1 :: c2 :: c3 :: H) := s.perm ((((List.Perm.swap c4 c3 H).cons c2).cons c1).trans (((List.Perm.swap c4 c2 _).cons c1).trans (List.Perm.swap c4 c1 _)))
theorem St.front4 (s : St w M (c1 :: c2 :: c3 :: c4 :: c5 :: H)) : St w M (c5 :: c1 :: c2 :: c3 :: c4 :: H) := by
  have h : (c1 :: c2 :: c3 :: c4 :: c5 :: H).Perm (c5 :: c1 :: c2 :: c3 :: c4 :: H) := List.perm_middle (a := c5) (l₁ := [c1, c2, c3, c4]) (l₂ := H)
  exact s.perm h
theorem St.front5 (s : St w M (c1 :: c2 :: c3 :: c4 :: c5 :: c6 :: H)) : St w M (c6 :: c1 :: c2 :: c3 :: c4 :: c5 :: H) := by
  have h : (c1 :: c2 :: c3 :: c4 :: c5 :: c6 :: H).Perm (c6 :: c1 :: c2 :: c3 :: c4 :: c5 :: H) := List.perm_middle (a := c6) (l₁ := [c1, c2, c3, c4, c5]) (l₂ := H)
  exact s.perm h
theorem St.mem {b : Nat} {o : Obj} {L : List HProp} (s : St w M L) (h : blk b o ∈ L) : w.heap[b]? = some o := by
  obtain ⟨l1, l2, rfl⟩ := List.append_of_mem h
  exact (s.perm List.perm_middle).get
theorem RdS.nil {α : Type} {sz : Nat} {R : Hp → List Value → α → Prop} (M : Hp) : RdS sz R M (.slice none 0 0) ([] : List α) :=
  ⟨none, 0, rfl, Nat.le_refl _, by simp, fun i x h => by simp at h⟩
theorem St.ptrC {e : TypeId} {sz m : Nat} {v : Value} {xs : List Value} (s : St w M (OwnC e sz v m xs :: H)) {k : Nat} (hk : k < m) : ∃ p, IdxPtr v k sz p := by
  obtain ⟨_, h⟩ := s.ownCases
  rcases h with ⟨rfl, rfl, _⟩ | ⟨g, cap, cur, rfl, _⟩
  · omega
  · exact ⟨_, _, _, _, rfl, hk, rfl⟩
theorem St.cellC {e : TypeId} {m : Nat} {v u : Value} {xs : List Value} (s : St w M (OwnC e 1 v m xs :: H)) {k : Nat} {p : Addr} (hp : IdxPtr v k 1 p) (hx : xs[k]? = some u) : w.cell? p = some u := by
  obtain ⟨p', hp', hc⟩ := s.atC hx
  obtain ⟨A, m1, c, e1, _, rfl⟩ := hp
  obtain ⟨A', m2, c', e2, _, rfl⟩ := hp'
  rw [e1] at e2; cases e2
  exact hc
theorem St.cellI {e : TypeId} {v : Value} {xs : List Int} {x : Int} (s : St w M (OwnI e v xs :: H)) {k : Nat} {p : Addr} (hp : IdxPtr v k 1 p) (hx : xs[k]? = some x) : w.cell? p = some (.int .i64 x) :=
  s.cellC hp (by simp [hx])
theorem St.madeI {e : TypeId} {v : Value} {k : Nat} (s : St w M (OwnC e 1 v k (madeCells (Value.int .i64 0).cells (k * 1)).toList :: H)) : St w M (OwnI e v (List.replicate k 0) :: H) := by
  have e1 : (madeCells (Value.int .i64 0).cells (k * 1)).toList = (List.replicate k (0 : Int)).map (Value.int .i64) := by
    rw [show (Value.int .i64 0).cells = #[.int .i64 0] from rfl, toList_madeCells_one]; simp
  rw [e1] at s
  unfold OwnI
  rw [List.length_replicate]; exact s
theorem St.freezeB {b : Nat} {o : Obj} (s : St w M (blk b o :: H)) : ∃ M', Hp.le M M' ∧ M' b = some o ∧ St w M' H := by
  obtain ⟨M', g, h1, h2, h3, s'⟩ := s.freeze
  unfold blk at h3; subst h3
  exact ⟨M', h1, h2 _ _ (by simp [Hp.one]), s'⟩
theorem cellM_box {b : Nat} {v : Value} {t : TypeId} {fr : Nat × Nat} (h : M b = some (.cells #[v] t fr)) : cellM M ⟨b, 0, none⟩ = some v := by simp [cellM, h]
theorem cellM_boxo {b i : Nat} {cs : Array Value} {v : Value} {t : TypeId} {fr : Nat × Nat} (h : M b = some (.cells cs t fr)) (hv : cs[i]? = some v) : cellM M ⟨b, i, none⟩ = some v := by simp [cellM, h, hv]
end
section
variable {r : Option Nat} {P : Program} {ops : Array Oper} {Q : Exit → Act → World → Prop} {a : Act} {w : World}
  {n : Nat} {ds : List Deferred} {l : List (Nat × Value)} {d : Nat} {op : Op} {ty t t' el : TypeId} {pos : String} {af : Array Edge} {gd : Option (Nat × Bool)} {x y z : Operand}
  {next : Act → World → Prop} {M : Hp} {H : List HProp} {v : Value} {sz by_ : Nat} {zv : Value} {κ κ' : IntKind} {i j : Int}
theorem R_loadGM {b : Nat} {cs : Array Value} {t0 : TypeId} {fr : Nat × Nat} (E : Env a n ds l) (hx : opv l x = some (.pointer (some ⟨b, 0, none⟩))) (hg : (isAgg t).run P w = .ok true w) (hs : (sizeOf t).run P w = .ok cs.size w)
    (ag : agree M w) (h : M b = some (.cells cs t0 fr)) : (execOp a.eval ⟨some d, .load t x, ty, pos, af, gd⟩).run P w = .ok (.value (.agg cs)) w := by
  have := R_loadG (P := P) (a := a) (w := w) (d := d) (ty := ty) (pos := pos) (af := af) (gd := gd) (cs := cs.toList) E hx hg (by simpa using hs) (fun j u hj => cellM_world ag (by
    rw [Addr.add_lit, Nat.zero_add]; exact cellM_boxo h (by simpa using hj)))
  simpa using this
theorem e_loadGM {b : Nat} {cs : Array Value} {t0 : TypeId} {fr : Nat × Nat} (E : Env a n ds l) (hx : opv l x = some (.pointer (some ⟨b, 0, none⟩))) (hg : (isAgg t).run P w = .ok true w) (hs : (sizeOf t).run P w = .ok cs.size w) (ag : agree M w) (h : M b = some (.cells cs t0 fr)) {r0 : Option Nat} {os0 : Array Oper} {Q0 : Exit → Act → World → Prop} {rest0 : List Oper} (k0 : ∀ a, Env a n ds ((d, (.agg cs)) :: l) → WL r0 P os0 Q0 rest0 a w) (hd0 : Nat.blt d n = true := by rfl) : WL r0 P os0 Q0 (⟨some d, .load t x, ty, pos, af, none⟩ :: rest0) a w := O_val E hd0 rfl (R_loadGM E hx hg hs ag h) k0
/-- a part of a struct -/
theorem R_loadGMo {b off m : Nat} {cs : Array Value} {part : List Value} {t0 : TypeId} {fr : Nat × Nat} (E : Env a n ds l) (hx : opv l x = some (.pointer (some ⟨b, off, none⟩))) (hg : (isAgg t).run P w = .ok true w) (hs : (sizeOf t).run P w = .ok m w)
    (ag : agree M w) (h : M b = some (.cells cs t0 fr)) (hp : (cs.toList.drop off).take m = part) (hm : part.length = m) : (execOp a.eval ⟨some d, .load t x, ty, pos, af, gd⟩).run P w = .ok (.value (.agg part.toArray)) w := by
  subst hm
  exact R_loadG (cs := part) E hx hg hs (fun j u hj => cellM_world ag (by
    rw [Addr.add_lit]
    refine cellM_boxo h ?_
    have hlt := (List.getElem?_eq_some_iff.1 hj).1
    rw [← hp, List.getElem?_take, if_pos hlt, List.getElem?_drop] at hj
    simpa using hj))
theorem e_loadGMo {b off m : Nat} {cs : Array Value} {part : List Value} {t0 : TypeId} {fr : Nat × Nat} (E : Env a n ds l) (hx : opv l x = some (.pointer (some ⟨b, off, none⟩))) (hg : (isAgg t).run P w = .ok true w) (hs : (sizeOf t).run P w = .ok m w) (ag : agree M w) (h : M b = some (.cells cs t0 fr)) (hp : (cs.toList.drop off).take m = part) (hm : part.length = m) {r0 : Option Nat} {os0 : Array Oper} {Q0 : Exit → Act → World → Prop} {rest0 : List Oper} (k0 : ∀ a, Env a n ds ((d, (.agg part.toArray)) :: l) → WL r0 P os0 Q0 rest0 a w) (hd0 : Nat.blt d n = true := by rfl) : WL r0 P os0 Q0 (⟨some d, .load t x, ty, pos, af, none⟩ :: rest0) a w := O_val E hd0 rfl (R_loadGMo E hx hg hs ag h hp hm) k0
theorem R_min {m : Int} (E : Env a n ds l) (hx : opv l x = some (.int κ i)) (hy : opv l y = some (.int κ j)) (hm : m = min i j) {ts : Array TypeId} :
    (execOp a.eval ⟨some d, .call ⟨.builtin .min, #[x, y], ts⟩, ty, pos, af, gd⟩).run P w = .ok (.value (.int κ m)) w := by
  have e : (if j < i then j else i) = m := by rw [hm]; omega
  simp [execOp, resolve, invoke, builtin, E.eval hx, E.eval hy, Builtin.min_, Builtin.min2, e]
theorem e_min {m : Int} (E : Env a n ds l) (hx : opv l x = some (.int κ i)) (hy : opv l y = some (.int κ j)) (hm : m = min i j) {ts : Array TypeId} {r0 : Option Nat} {os0 : Array Oper} {Q0 : Exit → Act → World → Prop} {rest0 : List Oper} (k0 : ∀ a, Env a n ds ((d, (.int κ m)) :: l) → WL r0 P os0 Q0 rest0 a w) (hd0 : Nat.blt d n = true := by rfl) : WL r0 P os0 Q0 (⟨some d, .call ⟨.builtin .min, #[x, y], ts⟩, ty, pos, af, none⟩ :: rest0) a w := O_val E hd0 rfl (R_min E hx hy hm) k0
theorem R_max {m : Int} (E : Env a n ds l) (hx : opv l x = some (.int κ i)) (hy : opv l y = some (.int κ j)) (hm : m = max i j) {ts : Array TypeId} :
    (execOp a.eval ⟨some d, .call ⟨.builtin .max, #[x, y], ts⟩, ty, pos, af, gd⟩).run P w = .ok (.value (.int κ m)) w := by
  have e : (if i < j then j else i) = m := by rw [hm]; omega
  simp [execOp, resolve, invoke, builtin, E.eval hx, E.eval hy, Builtin.max_, Builtin.max2, e]
theorem e_max {m : Int} (E : Env a n ds l) (hx : opv l x = some (.int κ i)) (hy : opv l y = some (.int κ j)) (hm : m = max i j) {ts : Array TypeId} {r0 : Option Nat} {os0 : Array Oper} {Q0 : Exit → Act → World → Prop} {rest0 : List Oper} (k0 : ∀ a, Env a n ds ((d, (.int κ m)) :: l) → WL r0 P os0 Q0 rest0 a w) (hd0 : Nat.blt d n = true := by rfl) : WL r0 P os0 Q0 (⟨some d, .call ⟨.builtin .max, #[x, y], ts⟩, ty, pos, af, none⟩ :: rest0) a w := O_val E hd0 rfl (R_max E hx hy hm) k0
theorem X_buildI {parts : Array (Nat × Operand)} {ys : List Int} {len : Nat} (E : Env a n ds l) (S : St w M H) (hd : Nat.blt d n = true) (T : SlT P t el 1 8 zv) (h1 : parts.toList.map (·.1) = List.range' 0 len) (hp : opvs l (parts.toList.map (·.2)) = some (ys.map (Value.int .i64))) (hlen : Nat.ble len 1000 = true)
    (kk : ∀ a w' v, Env a n ds ((d, v) :: l) → St w' M (OwnI el v ys :: H) → next a w') : (⟨some d, .buildSlice t len parts, ty, pos, af, gd⟩ : Oper).wpIn (Fw r) 0 P a w next Q := by
  have hl : ys.length = len := by
    have e := congrArg List.length h1
    have e' := congrArg List.length (E.evals hp)
    simp at e e'; omega
  subst hl
  exact X_build1 E S hd T hlen h1 hp (oneCell_ints _) kk
theorem X_pu0 {ats : Array TypeId} {f : Operand} {as : Array Operand} {fv : Value} {args : List Value} {q : Value → Hp → Prop} {M0 : Hp}
  (E : Env a n ds l) (S : St w M H) (hf : opv l f = some fv) (ha : opvs l as.toList = some args) (C : Pu P fv M0 args q) (hM : Hp.le M0 M)
  (k : ∀ a v w' M', Hp.le M M' → q v M' → St w' M' H → Env a n ds l → next a w') : (⟨none, .call ⟨.value f, as, ats⟩, ty, pos, af, gd⟩ : Oper).wpIn (Fw r) 0 P a w next Q :=
  X_call0 E hf ha (C w M H hM S) fun a v w' ⟨M', h1, h2, h3⟩ E => k a v w' M' h1 h2 h3 E
theorem X_storeC {e : TypeId} {m k : Nat} {xs : List Value} {u : Value} {p : Addr} (E : Env a n ds l) (S : St w M (OwnC e 1 v m xs :: H)) (hx : opv l x = some (.pointer (some p))) (hy : opv l y = some u)
    (hs : (sizeOf t).run P w = .ok 1 w) (h1 : u.oneCell' = true) (hp : IdxPtr v k 1 p)
    (kk : ∀ a w', Env a n ds l → St w' M (OwnC e 1 v m (xs.set k u) :: H) → next a w') : (⟨none, .store t x y, ty, pos, af, gd⟩ : Oper).wpIn (Fw r) 0 P a w next Q := by
  obtain ⟨hl, h⟩ := S.ownCases
  obtain ⟨A, m1, c, e1, hk, rfl⟩ := hp
  rcases h with ⟨rfl, rfl, _⟩ | ⟨g, cap, cur, rfl, s0, g1, g2, g3, g4⟩
  · cases e1
  · cases e1
    have hg := s0.get
    have hkc : k < cur.size := by omega
    have hcells : u.cells = #[u] := by cases u <;> first | rfl | (simp [Value.oneCell'] at h1)
    rw [Nat.mul_one, Addr.add_lit, Nat.zero_add] at hx
    have hc : w.cell? ⟨g, k, none⟩ = some cur[k] := by simp [World.cell?, hg, hkc]
    have hf : w.frozen? ⟨g, k, none⟩ = false := by simp [World.frozen?, hg]
    refine X_skip (w' := w.setCell ⟨g, k, none⟩ u) E rfl ?_ fun a E => kk a _ E ?_
    · simp [execOp, E.eval hx, E.eval hy, Instr.storeAt, Instr.sureAddr, storeVar, hs, hcells, storeCells, run_store P _ _ _ _ h1, Addr.add, hc, hf]
    · have s1 := s0.set (w' := w.setCell ⟨g, k, none⟩ u) (o' := .cells (cur.setIfInBounds k u) e (0, 0)) (by simp only [World.setCell]; rw [Array.getElem?_modify, if_pos rfl, hg]; rfl)
        (fun c hc x hx => by simp only [World.setCell]; rw [Array.getElem?_modify, if_neg (Ne.symm hc)]; exact hx)
      refine s1.ownOf (by simpa using hl) g1 g2 (by simpa using g3) ?_
      rw [Array.toList_setIfInBounds, List.take_set, g4]
theorem X_storeI {e : TypeId} {k : Nat} {xs : List Int} {x' : Int} {p : Addr} (E : Env a n ds l) (S : St w M (OwnI e v xs :: H)) (hx : opv l x = some (.pointer (some p))) (hy : opv l y = some (.int .i64 x'))
    (hs : (sizeOf t).run P w = .ok 1 w) (hp : IdxPtr v k 1 p)
    (kk : ∀ a w', Env a n ds l → St w' M (OwnI e v (xs.set k x') :: H) → next a w') : (⟨none, .store t x y, ty, pos, af, gd⟩ : Oper).wpIn (Fw r) 0 P a w next Q :=
  X_storeC E S hx hy hs rfl hp fun a w' E S => kk a w' E (by unfold OwnI; rw [List.length_set, List.map_set]; exact S)
/-- a draw whose operations do not panic -/
def NoP (Q : Exit → Act → World → Prop) : Exit → Act → World → Prop
  | .panic _, _, _ => False
  | e, a, w => Q e a w
theorem bT {φ : Prop} [Decidable φ] (h : φ) : Value.bool true = .bool (decide φ) := by rw [decide_eq_true h]
theorem bF {φ : Prop} [Decidable φ] (h : ¬φ) : Value.bool false = .bool (decide φ) := by rw [decide_eq_false h]
theorem NoP_n (h : Q .normal a w) : NoP Q .normal a w := h
theorem WP_drawn {C : Nat → World → Prop} {bf : Nat → List Nat} {id : Nat} {L : List Oper} (q R : List Nat) (hm : P.follows .mixedOrders = true) (hB : drawB L.toArray q R bf = true) (hC : ∀ x, q.contains x = true → C x w.drew)
    (h : wpT r P L.toArray (NoP Q) C bf q R a w.drew) : WP r P (.region id L.toArray true) Q a w :=
  wpIn_mono (WP_draw q R hm hB (fun _ _ _ _ _ h => h) hC h) fun e a w h => by cases e <;> first | exact h | exact h.elim
end
end Go.Sl
