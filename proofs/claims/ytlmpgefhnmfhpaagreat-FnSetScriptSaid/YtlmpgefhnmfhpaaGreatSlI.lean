import Derived.Test.YtlmpgefhnmfhpaaGreatSlH
namespace Go.Sl
open Go
section
variable {w w' : World} {M : Hp} {H : List Qm} {p q : Qm} {c1 c2 c3 c4 c5 c6 c7 : Qm}
theorem St.front1 (s : St w M (c1 :: c2 :: H)) : St w M (c2 :: c1 :: H) := s.swap
theorem St.front2 (s : St w M (c1 :: c2 :: c3 :: H)) : St w M (c3 :: c1 :: c2 :: H) := s.perm (((List.Perm.swap c3 c2 H).cons c1).trans (List.Perm.swap c3 c1 _))
theorem St.front3 (s : St w M (c1 :: c2 :: c3 :: c4 :: H)) : St w M (c4 :: c1 :: c2 :: c3 :: H) := s.perm ((((List.Perm.swap c4 c3 H).cons c2).cons c1).trans (((List.Perm.swap c4 c2 _).cons c1).trans (List.Perm.swap c4 c1 _)))
theorem St.front4 (s : St w M (c1 :: c2 :: c3 :: c4 :: c5 :: H)) : St w M (c5 :: c1 :: c2 :: c3 :: c4 :: H) := by
  have h : (c1 :: c2 :: c3 :: c4 :: c5 :: H).Perm (c5 :: c1 :: c2 :: c3 :: c4 :: H) := List.perm_middle (a := c5) (l₁ := [c1, c2, c3, c4]) (l₂ := H)
  exact s.perm h
theorem St.mem {b : Nat} {o : Obj} {L : List Qm} (s : St w M L) (h : Qh b o ∈ L) : w.heap[b]? = some o := by
  obtain ⟨l1, l2, rfl⟩ := List.append_of_mem h
  exact (s.perm List.perm_middle).get
theorem JN.nil {α : Type} {sz : Nat} {R : Hp → List Value → α → Prop} (M : Hp) : JN sz R M (.slice none 0 0) ([] : List α) :=
  ⟨none, 0, rfl, Nat.le_refl _, by simp, fun i x h => by simp at h⟩
theorem St.ptrC {e : TypeId} {sz m : Nat} {v : Value} {xs : List Value} (s : St w M (Jk e sz v m xs :: H)) {k : Nat} (hk : k < m) : ∃ p, Zj v k sz p := by
  obtain ⟨_, h⟩ := s.ownCases
  rcases h with ⟨rfl, rfl, _⟩ | ⟨g, cap, cur, rfl, _⟩
  · omega
  · exact ⟨_, _, _, _, rfl, hk, rfl⟩
theorem St.cellC {e : TypeId} {m : Nat} {v u : Value} {xs : List Value} (s : St w M (Jk e 1 v m xs :: H)) {k : Nat} {p : Addr} (hp : Zj v k 1 p) (hx : xs[k]? = some u) : w.cell? p = some u := by
  obtain ⟨p', hp', hc⟩ := s.atC hx
  obtain ⟨A, m1, c, e1, _, rfl⟩ := hp
  obtain ⟨A', m2, c', e2, _, rfl⟩ := hp'
  rw [e1] at e2; cases e2
  exact hc
theorem St.cellI {e : TypeId} {v : Value} {xs : List Int} {x : Int} (s : St w M (Zi e v xs :: H)) {k : Nat} {p : Addr} (hp : Zj v k 1 p) (hx : xs[k]? = some x) : w.cell? p = some (.int .i64 x) :=
  s.cellC hp (by simp [hx])
theorem St.freezeB {b : Nat} {o : Obj} (s : St w M (Qh b o :: H)) : ∃ M', Hp.le M M' ∧ M' b = some o ∧ St w M' H := by
  obtain ⟨M', g, h1, h2, h3, s'⟩ := s.freeze
  unfold Qh at h3; subst h3
  exact ⟨M', h1, h2 _ _ (by simp [Hp.one]), s'⟩
theorem Jn {b : Nat} {v : Value} {t : TypeId} {fr : Nat × Nat} (h : M b = some (.cells #[v] t fr)) : ZC M ⟨b, 0, none⟩ = some v := by simp [ZC, h]
theorem Qf {b i : Nat} {cs : Array Value} {v : Value} {t : TypeId} {fr : Nat × Nat} (h : M b = some (.cells cs t fr)) (hv : cs[i]? = some v) : ZC M ⟨b, i, none⟩ = some v := by simp [ZC, h, hv]
end
section
variable {r : Option Nat} {P : Program} {ops : Array Oper} {Q : Exit → Act → World → Prop} {a : Act} {w : World}
  {n : Nat} {ds : List Deferred} {l : List (Nat × Value)} {d : Nat} {op : Op} {ty t t' el : TypeId} {pos : String} {af : Array Edge} {gd : Option (Nat × Bool)} {x y z : Operand}
  {next : Act → World → Prop} {M : Hp} {H : List Qm} {v : Value} {sz by_ : Nat} {zv : Value} {κ κ' : IntKind} {i j : Int}
theorem ZI {b : Nat} {cs : Array Value} {t0 : TypeId} {fr : Nat × Nat} (E : Env a n ds l) (hx : Jy l x = some (.pointer (some ⟨b, 0, none⟩))) (hg : (isAgg t).run P w = .ok true w) (hs : (sizeOf t).run P w = .ok cs.size w)
    (ag : agree M w) (h : M b = some (.cells cs t0 fr)) : (execOp a.eval ⟨some d, .load t x, ty, pos, af, gd⟩).run P w = .ok (.value (.agg cs)) w := by
  have := jw (P := P) (a := a) (w := w) (d := d) (ty := ty) (pos := pos) (af := af) (gd := gd) (cs := cs.toList) E hx hg (by simpa using hs) (fun j u hj => Yi ag (by
    rw [Addr.add_lit, Nat.zero_add]; exact Qf h (by simpa using hj)))
  simpa using this
theorem Ga {b : Nat} {cs : Array Value} {t0 : TypeId} {fr : Nat × Nat} (E : Env a n ds l) (hx : Jy l x = some (.pointer (some ⟨b, 0, none⟩))) (hg : (isAgg t).run P w = .ok true w) (hs : (sizeOf t).run P w = .ok cs.size w) (ag : agree M w) (h : M b = some (.cells cs t0 fr)) {r0 : Option Nat} {os0 : Array Oper} {Q0 : Exit → Act → World → Prop} {rest0 : List Oper} (k0 : ∀ a, Env a n ds ((d, (.agg cs)) :: l) → WL r0 P os0 Q0 rest0 a w) (hd0 : Nat.blt d n = true := by rfl) : WL r0 P os0 Q0 (⟨some d, .load t x, ty, pos, af, none⟩ :: rest0) a w := Zt E hd0 rfl (ZI E hx hg hs ag h) k0
theorem R_min {m : Int} (E : Env a n ds l) (hx : Jy l x = some (.int κ i)) (hy : Jy l y = some (.int κ j)) (hm : m = min i j) {ts : Array TypeId} :
    (execOp a.eval ⟨some d, .call ⟨.builtin .min, #[x, y], ts⟩, ty, pos, af, gd⟩).run P w = .ok (.value (.int κ m)) w := by
  have e : (if j < i then j else i) = m := by rw [hm]; omega
  simp [execOp, resolve, invoke, builtin, E.eval hx, E.eval hy, Builtin.min_, Builtin.min2, e]
theorem e_min {m : Int} (E : Env a n ds l) (hx : Jy l x = some (.int κ i)) (hy : Jy l y = some (.int κ j)) (hm : m = min i j) {ts : Array TypeId} {r0 : Option Nat} {os0 : Array Oper} {Q0 : Exit → Act → World → Prop} {rest0 : List Oper} (k0 : ∀ a, Env a n ds ((d, (.int κ m)) :: l) → WL r0 P os0 Q0 rest0 a w) (hd0 : Nat.blt d n = true := by rfl) : WL r0 P os0 Q0 (⟨some d, .call ⟨.builtin .min, #[x, y], ts⟩, ty, pos, af, none⟩ :: rest0) a w := Zt E hd0 rfl (R_min E hx hy hm) k0
theorem R_max {m : Int} (E : Env a n ds l) (hx : Jy l x = some (.int κ i)) (hy : Jy l y = some (.int κ j)) (hm : m = max i j) {ts : Array TypeId} :
    (execOp a.eval ⟨some d, .call ⟨.builtin .max, #[x, y], ts⟩, ty, pos, af, gd⟩).run P w = .ok (.value (.int κ m)) w := by
  have e : (if i < j then j else i) = m := by rw [hm]; omega
  simp [execOp, resolve, invoke, builtin, E.eval hx, E.eval hy, Builtin.max_, Builtin.max2, e]
theorem e_max {m : Int} (E : Env a n ds l) (hx : Jy l x = some (.int κ i)) (hy : Jy l y = some (.int κ j)) (hm : m = max i j) {ts : Array TypeId} {r0 : Option Nat} {os0 : Array Oper} {Q0 : Exit → Act → World → Prop} {rest0 : List Oper} (k0 : ∀ a, Env a n ds ((d, (.int κ m)) :: l) → WL r0 P os0 Q0 rest0 a w) (hd0 : Nat.blt d n = true := by rfl) : WL r0 P os0 Q0 (⟨some d, .call ⟨.builtin .max, #[x, y], ts⟩, ty, pos, af, none⟩ :: rest0) a w := Zt E hd0 rfl (R_max E hx hy hm) k0
theorem Jf {parts : Array (Nat × Operand)} {ys : List Int} {len : Nat} (E : Env a n ds l) (S : St w M H) (hd : Nat.blt d n = true) (T : Gj P t el 1 8 zv) (h1 : parts.toList.map (·.1) = List.range' 0 len) (hp : VS l (parts.toList.map (·.2)) = some (ys.map (Value.int .i64))) (hlen : Nat.ble len 1000 = true)
    (kk : ∀ a w' v, Env a n ds ((d, v) :: l) → St w' M (Zi el v ys :: H) → next a w') : (⟨some d, .buildSlice t len parts, ty, pos, af, gd⟩ : Oper).wpIn (Fw r) 0 P a w next Q := by
  have hl : ys.length = len := by
    have e := congrArg List.length h1
    have e' := congrArg List.length (E.evals hp)
    simp at e e'; omega
  subst hl
  exact qU E S hd T hlen h1 hp (VZ _) kk
theorem Zs {e : TypeId} {m k : Nat} {xs : List Value} {u : Value} {p : Addr} (E : Env a n ds l) (S : St w M (Jk e 1 v m xs :: H)) (hx : Jy l x = some (.pointer (some p))) (hy : Jy l y = some u)
    (hs : (sizeOf t).run P w = .ok 1 w) (h1 : u.oneCell' = true) (hp : Zj v k 1 p)
    (kk : ∀ a w', Env a n ds l → St w' M (Jk e 1 v m (xs.set k u) :: H) → next a w') : (⟨none, .store t x y, ty, pos, af, gd⟩ : Oper).wpIn (Fw r) 0 P a w next Q := by
  obtain ⟨hl, h⟩ := S.ownCases
  obtain ⟨A, m1, c, e1, hk, rfl⟩ := hp
  rcases h with ⟨rfl, rfl, _⟩ | ⟨g, cap, cur, rfl, s0, g1, g2, g3, g4⟩
  · cases e1
  · cases e1
    have hg := s0.get
    have hkc : k < cur.size := by omega
    have hcells : u.cells = #[u] := by cases u <;> first | rfl | (simp [Value.oneCell'] at h1)
    rw [Nat.mul_one, Addr.add_lit, Nat.zero_add] at hx
    have hc : w.cell? ⟨g, k, none⟩ = some cur[k] := by simp [World.cell?, hg, hkc]
    have hf : w.frozen? ⟨g, k, none⟩ = false := by simp [World.frozen?, hg]
    refine qS (w' := w.setCell ⟨g, k, none⟩ u) E rfl ?_ fun a E => kk a _ E ?_
    · simp [execOp, E.eval hx, E.eval hy, Instr.storeAt, Instr.sureAddr, storeVar, hs, hcells, storeCells, run_store P _ _ _ _ h1, Addr.add, hc, hf]
    · have s1 := s0.set (w' := w.setCell ⟨g, k, none⟩ u) (o' := .cells (cur.setIfInBounds k u) e (0, 0)) (by simp only [World.setCell]; rw [Array.getElem?_modify, if_pos rfl, hg]; rfl)
        (fun c hc x hx => by simp only [World.setCell]; rw [Array.getElem?_modify, if_neg (Ne.symm hc)]; exact hx)
      refine s1.ownOf (by simpa using hl) g1 g2 (by simpa using g3) ?_
      rw [Array.toList_setIfInBounds, List.take_set, g4]
def NoP (Q : Exit → Act → World → Prop) : Exit → Act → World → Prop
  | .panic _, _, _ => False
  | e, a, w => Q e a w
theorem bT {φ : Prop} [Decidable φ] (h : φ) : Value.bool true = .bool (decide φ) := by rw [decide_eq_true h]
theorem bF {φ : Prop} [Decidable φ] (h : ¬φ) : Value.bool false = .bool (decide φ) := by rw [decide_eq_false h]
theorem Ju (h : Q .normal a w) : NoP Q .normal a w := h
theorem QN {C : Nat → World → Prop} {bf : Nat → List Nat} {id : Nat} {L : List Oper} (q R : List Nat) (hm : P.follows .mixedOrders = true) (hB : drawB L.toArray q R bf = true) (hC : ∀ x, q.contains x = true → C x w.drew)
    (h : Uo r P L.toArray (NoP Q) C bf q R a w.drew) : WP r P (.region id L.toArray true) Q a w :=
  wpIn_mono (WP_draw q R hm hB (fun _ _ _ _ _ h => h) hC h) fun e a w h => by cases e <;> first | exact h | exact h.elim
end
end Go.Sl
