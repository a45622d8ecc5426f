import Derived.Test.YtejfcglfjdfneaaSlQ
import Derived.Maps.RangeRun
/-! Ranges over maps. -/
set_option linter.unusedVariables false
namespace Go.Sl
open Go
/-- a map in frozen memory, its entries told -/
def RdMe (M : Hp) (mv : Value) (L : List (Int × Value)) (es : Array MapEntry) (clock : Nat) : Prop := ∃ b, mv = .map (some b) ∧ M b = some (.map es clock) ∧ MapEs es clock L
theorem RdMe.le {M M' : Hp} {mv : Value} {L : List (Int × Value)} {es : Array MapEntry} {clock : Nat} (h : RdMe M mv L es clock) (hM : Hp.le M M') : RdMe M' mv L es clock := by
  obtain ⟨b, e, h1, h2⟩ := h; exact ⟨b, e, hM.2 _ _ h1, h2⟩
/-- an iterator that has handed out the entries p -/
def ItO (mv : Value) (es : Array MapEntry) (clock : Nat) (r : Nat) (p : List (Int × Value)) : HProp := fun h =>
  ∃ o, (∃ b since seen last, mv = .map (some b) ∧ o = Obj.mapIter (some b) since seen last ∧ (∀ x ∈ es.toList, x.born < since) ∧ since ≤ last ∧ since ≤ clock ∧
    (∀ q : MapEntry, q ∈ es.toList → (q.born ∈ seen ↔ (q.key, q.val) ∈ p.map fun z => (Value.int .i64 z.1, z.2))) ∧
    (∀ p' k v, p = p' ++ [(k, v)] → ∃ (e : MapEntry) (s' : Array Nat), e ∈ es.toList ∧ e.key = .int .i64 k ∧ e.val = v ∧ seen = s'.push e.born ∧ last = clock)) ∧ h = Hp.one r o
theorem pairs_inj : ∀ {l m : List (Int × Value)}, l.map (fun p => (Value.int .i64 p.1, p.2)) = m.map (fun p => (Value.int .i64 p.1, p.2)) → l = m
  | [], [], _ => rfl
  | [], _ :: _, h => by simp at h
  | _ :: _, [], h => by simp at h
  | a :: l, b :: m, h => by
    simp only [List.map_cons, List.cons.injEq, Prod.mk.injEq, Value.int.injEq, true_and] at h
    rw [pairs_inj h.2, show a = b from Prod.ext h.1.1 h.1.2]
section
variable {r : Option Nat} {P : Program} {ops : Array Oper} {Q : Exit → Act → World → Prop} {a : Act} {w : World}
  {n : Nat} {ds : List Deferred} {l : List (Nat × Value)} {d : Nat} {op : Op} {ty t kt et : TypeId} {pos : String} {af : Array Edge} {gd : Option (Nat × Bool)} {x y z : Operand}
  {next : Act → World → Prop} {M : Hp} {H : List HProp} {zv : Value} {b : Nat} {k : Int} {v mv : Value} {L p : List (Int × Value)} {es : Array MapEntry}
theorem X_range (E : Env a n ds l) (S : St w M H) (hd : Nat.blt d n = true) (T : MapT P t kt et zv) (F : RdM M mv L) (hx : opv l x = some mv)
    (kk : ∀ a w' i es clock, Env a n ds ((d, .pointer (some ⟨i, 0, none⟩)) :: l) → RdMe M mv L es clock → St w' M (ItO mv es clock i [] :: H) → next a w') : (⟨some d, .range t x, ty, pos, af, gd⟩ : Oper).wpIn (Fw r) 0 P a w next Q := by
  obtain ⟨b, es, clock, rfl, hb, h⟩ := F
  have hw := S.imm.2 _ _ hb
  refine X_val E hd rfl (v := .pointer (some ⟨w.heap.size, 0, none⟩)) (w' := w.alloc (.mapIter (some b) clock #[] clock)) ?_ fun a E => kk a _ _ es clock E ⟨b, rfl, hb, h⟩ ((S.new (o := .mapIter (some b) clock #[] clock) rfl).imp fun g e => ⟨_, ⟨b, clock, #[], clock, rfl, rfl, h.lt, Nat.le_refl _, Nat.le_refl _, fun q hq => by simp, fun p' k v e => by simp at e⟩, e⟩)
  simp [execOp, Instr.range, E.eval hx, run_underlying T.und, MapKept.run_getObj_map hw, Result.andThen]
theorem X_next {i clock : Nat} (E : Env a n ds l) (S : St w M (ItO mv es clock i p :: H)) (hd : Nat.blt d n = true) (F : RdMe M mv L es clock) (hx : opv l x = some (.pointer (some ⟨i, 0, none⟩)))
    (hp : (p.map Prod.fst).Nodup) (hL : ∀ z ∈ p, z ∈ L)
    (k0 : ∀ a, Env a n ds ((d, .tuple #[.bool false]) :: l) → p.Perm L → St w M (ItO mv es clock i p :: H) → next a w)
    (k1 : ∀ a w' k v, Env a n ds ((d, .tuple #[.bool true, .int .i64 k, v]) :: l) → (k, v) ∈ L → k ∉ p.map Prod.fst → p.length < L.length → St w' M (ItO mv es clock i (p ++ [(k, v)]) :: H) → next a w') :
    (⟨some d, .next x false, ty, pos, af, gd⟩ : Oper).wpIn (Fw r) 0 P a w next Q := by
  obtain ⟨o, S0⟩ := S.ex
  obtain ⟨⟨b, since, seen, last, rfl, rfl, hlt, hsl, hcl, hseen, _⟩, S1⟩ := S0.pure_
  clear S0
  obtain ⟨b', hmv, hb, h⟩ := F
  cases hmv
  have hw := S.imm.2 _ _ hb
  have hmem : ∀ z : Int × Value, z ∈ L ↔ ∃ q ∈ es.toList, (q.key, q.val) = (Value.int .i64 z.1, z.2) := by
    intro z
    have : (Value.int .i64 z.1, z.2) ∈ es.toList.map (fun e => (e.key, e.val)) ↔ (Value.int .i64 z.1, z.2) ∈ L.map (fun p => (Value.int .i64 p.1, p.2)) := by rw [h.rd]
    rw [List.mem_map, List.mem_map] at this
    constructor
    · intro hz; exact (this.2 ⟨z, hz, rfl⟩)
    · intro hz; obtain ⟨u, hu, e⟩ := this.1 hz
      simp only [Prod.mk.injEq, Value.int.injEq, true_and] at e
      rw [show z = u from Prod.ext e.1.symm e.2.symm]; exact hu
  rcases run_next_at (P := P) w ty i b since last seen es clock S1.get hw hlt hsl with ⟨h0, hr⟩ | ⟨e, he, w1, hw1, hr⟩
  · refine X_val E hd rfl (v := .tuple #[.bool false]) (w' := w) (by simp only [execOp, E.eval hx]; simp [hr]) fun a E => k0 a E ?_ S
    have hall : ∀ z ∈ L, z ∈ p := by
      intro z hz
      obtain ⟨q, hq, e⟩ := (hmem z).1 hz
      have : q.born ∈ seen := by
        apply Classical.byContradiction; intro hn
        have : q ∈ (leftOf es seen).toList := by unfold leftOf; simp; exact ⟨by simpa using hq, hn⟩
        have h1 : (leftOf es seen).toList = [] := by rw [Array.eq_empty_of_size_eq_zero h0]
        rw [h1] at this; cases this
      have := (hseen q hq).1 this
      rw [e] at this
      obtain ⟨u, hu, e'⟩ := List.mem_map.1 this
      simp only [Prod.mk.injEq, Value.int.injEq, true_and] at e'
      rw [show z = u from Prod.ext e'.1.symm e'.2.symm]; exact hu
    have nd : ∀ {q : List (Int × Value)}, (q.map Prod.fst).Nodup → q.Nodup := fun h => (List.Pairwise.imp (fun h e => h (congrArg _ e)) (List.pairwise_map.1 h))
    exact (List.perm_ext_iff_of_nodup (nd hp) (nd h.nd)).2 fun z => ⟨hL z, hall z⟩
  · unfold leftOf at he
    simp only [Array.toList_filter, List.mem_filter, Bool.not_eq_true', Array.contains_eq_mem, decide_eq_false_iff_not] at he
    obtain ⟨he1, he2⟩ := he
    obtain ⟨z, hz, hze⟩ : ∃ z ∈ L, (e.key, e.val) = (Value.int .i64 z.1, z.2) := by
      have : (e.key, e.val) ∈ L.map (fun p => (Value.int .i64 p.1, p.2)) := by rw [← h.rd]; exact List.mem_map_of_mem (f := fun e : MapEntry => (e.key, e.val)) he1
      obtain ⟨z, hz, e'⟩ := List.mem_map.1 this
      exact ⟨z, hz, e'.symm⟩
    obtain ⟨k, v⟩ := z
    simp only [Prod.mk.injEq] at hze
    have hnp : (k, v) ∉ p := fun hp => he2 ((hseen e he1).2 (by rw [hze.1, hze.2]; exact List.mem_map_of_mem (f := fun z : Int × Value => (Value.int .i64 z.1, z.2)) hp))
    have hnk : k ∉ p.map Prod.fst := by
      intro hk
      obtain ⟨⟨k', v'⟩, hk', e'⟩ := List.mem_map.1 hk
      simp only at e'; subst e'
      have h1 := hL _ hk'
      have : (k', v') = (k', v) := by
        have hn := h.nd
        rw [List.Nodup, List.pairwise_map] at hn
        apply Classical.byContradiction; intro hne
        obtain ⟨a1, h2⟩ := List.getElem?_of_mem h1
        obtain ⟨a2, h3⟩ := List.getElem?_of_mem hz
        have l1 := (List.getElem?_eq_some_iff.1 h2).1
        have l2 := (List.getElem?_eq_some_iff.1 h3).1
        have g1 : L[a1] = (k', v') := Option.some.inj ((List.getElem?_eq_getElem l1).symm.trans h2)
        have g2 : L[a2] = (k', v) := Option.some.inj ((List.getElem?_eq_getElem l2).symm.trans h3)
        rcases Nat.lt_trichotomy a1 a2 with c | c | c
        · exact List.pairwise_iff_getElem.1 hn a1 a2 l1 l2 c (by rw [g1, g2])
        · subst c; rw [g1] at g2; exact hne g2
        · exact List.pairwise_iff_getElem.1 hn a2 a1 l2 l1 c (by rw [g1, g2])
      exact hnp (this ▸ hk')
    have hlen : p.length < L.length := by
      have hsub : p ++ [(k, v)] ⊆ L := fun u hu => by rcases List.mem_append.1 hu with h | h; · exact hL u h
                                                      · simp at h; rw [h]; exact hz
      have hnd : (p ++ [(k, v)]).Nodup := List.nodup_append.2 ⟨(List.Pairwise.imp (fun h e => h (congrArg _ e)) (List.pairwise_map.1 hp)), by simp, fun a ha b hb e => hnp (by simp at hb; rw [← hb, ← e]; exact ha)⟩
      have := List.Nodup.length_le_of_subset hnd (fun _ h => hsub h)
      simp at this; omega
    have S2 : St w1 M (blk i (.mapIter (some b) since seen last) :: H) := by
      rcases hw1 with rfl | rfl
      · exact S1
      · exact S1.mono_heap rfl
    refine X_val E hd rfl (v := .tuple #[.bool true, .int .i64 k, v]) (w' := ChangeMaps.setBlock w1 i (.mapIter (some b) since (seen.push e.born) clock)) (by simp only [execOp, E.eval hx]; simp [hr, hze.1, hze.2]) fun a E =>
      k1 a _ k v E hz hnk hlen ((S2.set (o' := .mapIter (some b) since (seen.push e.born) clock) ?_ ?_).imp fun g e' => ⟨_, ⟨b, since, seen.push e.born, clock, rfl, rfl, hlt, hcl, hcl, fun q hq => ?_, fun p' k' v' e1 => ?_⟩, e'⟩)
    · have := (Array.getElem?_eq_some_iff.1 S2.get).1; simp [ChangeMaps.setBlock, this]
    · intro c hc x hx; simp only [ChangeMaps.setBlock, Array.getElem?_setIfInBounds]; rw [if_neg (Ne.symm hc)]; exact hx
    · rw [Array.mem_push, List.map_append, List.mem_append, hseen q hq]
      refine or_congr Iff.rfl ?_
      simp only [List.map_cons, List.map_nil, List.mem_singleton]
      constructor
      · intro e1
        have : q = e := by
          have hst := h.st
          rw [List.Nodup, List.pairwise_map] at hst
          obtain ⟨a1, h2⟩ := List.getElem?_of_mem hq
          obtain ⟨a2, h3⟩ := List.getElem?_of_mem he1
          have l1 := (List.getElem?_eq_some_iff.1 h2).1
          have l2 := (List.getElem?_eq_some_iff.1 h3).1
          have g1 : es.toList[a1] = q := Option.some.inj ((List.getElem?_eq_getElem l1).symm.trans h2)
          have g2 : es.toList[a2] = e := Option.some.inj ((List.getElem?_eq_getElem l2).symm.trans h3)
          rcases Nat.lt_trichotomy a1 a2 with c | c | c
          · exact absurd (by rw [g1, g2, e1]) (List.pairwise_iff_getElem.1 hst a1 a2 l1 l2 c)
          · subst c; rw [← g1, g2]
          · exact absurd (by rw [g1, g2, e1]) (List.pairwise_iff_getElem.1 hst a2 a1 l2 l1 c)
        rw [this, hze.1, hze.2]
      · intro e1
        rw [← hze.1, ← hze.2] at e1
        have hidx : ∀ u ∈ es.toList, ∀ u' ∈ es.toList, (u.key, u.val) = (u'.key, u'.val) → u = u' := by
          intro u hu u' hu' he
          obtain ⟨a1, h2⟩ := List.getElem?_of_mem hu
          obtain ⟨a2, h3⟩ := List.getElem?_of_mem hu'
          have l1 := (List.getElem?_eq_some_iff.1 h2).1
          have l2 := (List.getElem?_eq_some_iff.1 h3).1
          have g1 : es.toList[a1] = u := Option.some.inj ((List.getElem?_eq_getElem l1).symm.trans h2)
          have g2 : es.toList[a2] = u' := Option.some.inj ((List.getElem?_eq_getElem l2).symm.trans h3)
          have hkeys : (es.toList.map (fun e => e.key)).Nodup := by
            have : es.toList.map (fun e => e.key) = (L.map Prod.fst).map (Value.int .i64) := by
              have := congrArg (List.map Prod.fst) h.rd
              simpa [List.map_map, Function.comp_def] using this
            rw [this]; exact List.Pairwise.map _ (fun a b hab e => hab (by simpa using e)) h.nd
          rw [List.Nodup, List.pairwise_map] at hkeys
          rcases Nat.lt_trichotomy a1 a2 with c | c | c
          · exact absurd (by rw [g1, g2]; exact congrArg Prod.fst he) (List.pairwise_iff_getElem.1 hkeys a1 a2 l1 l2 c)
          · subst c; rw [← g1, g2]
          · exact absurd (by rw [g1, g2]; exact (congrArg Prod.fst he).symm) (List.pairwise_iff_getElem.1 hkeys a2 a1 l2 l1 c)
        rw [hidx q hq e he1 e1]
    · have e2 := List.append_inj_right' e1 rfl
      simp only [List.cons.injEq, Prod.mk.injEq, and_true] at e2
      exact ⟨e, seen, he1, by rw [hze.1, e2.1], by rw [hze.2, e2.2], rfl, rfl⟩
theorem R_entry {i clock : Nat} (E : Env a n ds l) (S : St w M (ItO mv es clock i (p ++ [(k, v)]) :: H)) (F : RdMe M mv L es clock) (hx : opv l x = some (.pointer (some ⟨i, 0, none⟩))) :
    (execOp a.eval ⟨some d, .entry x, ty, pos, af, gd⟩).run P w = .ok (.value (.tuple #[.int .i64 k, v])) w := by
  obtain ⟨o, S0⟩ := S.ex
  obtain ⟨⟨b, since, seen, last, rfl, rfl, hlt, hsl, hcl, hseen, hl⟩, S1⟩ := S0.pure_
  clear S0
  obtain ⟨b', hmv, hb, h⟩ := F
  cases hmv
  obtain ⟨e, s', he, hk, hv, rfl, rfl⟩ := hl p k v rfl
  have hw := S.imm.2 _ _ hb
  have hr := run_entry_at (P := P) w i b since s' es last e S1.get hw he h.st
  simp only [execOp, E.eval hx]; simp [hr, hk, hv]
theorem e_entry {i clock : Nat} (E : Env a n ds l) (S : St w M (ItO mv es clock i (p ++ [(k, v)]) :: H)) (F : RdMe M mv L es clock) (hx : opv l x = some (.pointer (some ⟨i, 0, none⟩))) {r0 : Option Nat} {os0 : Array Oper} {Q0 : Exit → Act → World → Prop} {rest0 : List Oper} (k0 : ∀ a, Env a n ds ((d, (.tuple #[.int .i64 k, v])) :: l) → WL r0 P os0 Q0 rest0 a w) (hd0 : Nat.blt d n = true := by rfl) : WL r0 P os0 Q0 (⟨some d, .entry x, ty, pos, af, none⟩ :: rest0) a w := O_val E hd0 rfl (R_entry E S F hx) k0
theorem St.reIt {clock i : Nat} {p' : List (Int × Value)} (s : St w M (ItO mv es clock i p :: H)) (e : p = p') : St w M (ItO mv es clock i p' :: H) := e ▸ s
theorem nodup_of_keys {β : Type} {l : List (Int × β)} (h : (l.map Prod.fst).Nodup) : l.Nodup := List.Pairwise.imp (fun h e => h (congrArg _ e)) (List.pairwise_map.1 h)
theorem inj_of_keys {β : Type} {l : List (Int × β)} (h : (l.map Prod.fst).Nodup) {u u' : Int × β} (hu : u ∈ l) (hu' : u' ∈ l) (e : u.1 = u'.1) : u = u' := by
  rw [List.Nodup, List.pairwise_map] at h
  obtain ⟨a1, h2⟩ := List.getElem?_of_mem hu
  obtain ⟨a2, h3⟩ := List.getElem?_of_mem hu'
  have l1 := (List.getElem?_eq_some_iff.1 h2).1
  have l2 := (List.getElem?_eq_some_iff.1 h3).1
  have g1 : l[a1] = u := Option.some.inj ((List.getElem?_eq_getElem l1).symm.trans h2)
  have g2 : l[a2] = u' := Option.some.inj ((List.getElem?_eq_getElem l2).symm.trans h3)
  rcases Nat.lt_trichotomy a1 a2 with c | c | c
  · exact absurd (by rw [g1, g2]; exact e) (List.pairwise_iff_getElem.1 h a1 a2 l1 l2 c)
  · subst c; rw [← g1, g2]
  · exact absurd (by rw [g1, g2]; exact e.symm) (List.pairwise_iff_getElem.1 h a2 a1 l2 l1 c)
theorem X_nextS {i clock : Nat} {s q : List Int} (E : Env a n ds l) (S : St w M (ItO mv es clock i (encS q) :: H)) (hd : Nat.blt d n = true) (F : RdMe M mv (encS s) es clock) (hx : opv l x = some (.pointer (some ⟨i, 0, none⟩)))
    (hp : q.Nodup) (hL : ∀ z ∈ q, z ∈ s)
    (k0 : ∀ a, Env a n ds ((d, .tuple #[.bool false]) :: l) → q.Perm s → St w M (ItO mv es clock i (encS q) :: H) → next a w)
    (k1 : ∀ a w' k, Env a n ds ((d, .tuple #[.bool true, .int .i64 k, .agg #[]]) :: l) → k ∈ s → k ∉ q → q.length < s.length → St w' M (ItO mv es clock i (encS (q ++ [k])) :: H) → next a w') :
    (⟨some d, .next x false, ty, pos, af, gd⟩ : Oper).wpIn (Fw r) 0 P a w next Q := by
  have hs : s.Nodup := by obtain ⟨_, _, _, h⟩ := F; have := h.nd; rwa [keys_encS] at this
  refine X_next E S hd F hx (by rw [keys_encS]; exact hp) ?_ (fun a E h S => k0 a E ((List.perm_ext_iff_of_nodup hp hs).2 fun z => ⟨hL z, fun hz => ?_⟩) S) fun a w' k v E h1 h2 h3 S => ?_
  · intro z hz
    obtain ⟨y, hy, rfl⟩ := List.mem_map.1 hz
    exact List.mem_map_of_mem (f := fun x => (x, Value.agg #[])) (hL y hy)
  · have : (z, Value.agg #[]) ∈ encS q := h.symm.subset (List.mem_map_of_mem (f := fun x => (x, Value.agg #[])) hz)
    obtain ⟨y, hy, e⟩ := List.mem_map.1 this
    simp only [Prod.mk.injEq, and_true] at e; exact e ▸ hy
  · obtain ⟨y, hy, e⟩ := List.mem_map.1 h1
    simp only [Prod.mk.injEq] at e
    obtain ⟨rfl, rfl⟩ := e
    rw [keys_encS] at h2
    exact k1 a w' y E hy h2 (by simpa [encS] using h3) (by simpa [encS] using S)
theorem X_nextE {β : Type} {vf : β → Value} {i clock : Nat} {s q : List (Int × β)} (E : Env a n ds l) (S : St w M (ItO mv es clock i (encE vf q) :: H)) (hd : Nat.blt d n = true) (F : RdMe M mv (encE vf s) es clock) (hx : opv l x = some (.pointer (some ⟨i, 0, none⟩)))
    (hp : (q.map Prod.fst).Nodup) (hL : ∀ z ∈ q, z ∈ s)
    (k0 : ∀ a, Env a n ds ((d, .tuple #[.bool false]) :: l) → q.Perm s → St w M (ItO mv es clock i (encE vf q) :: H) → next a w)
    (k1 : ∀ a w' k u, Env a n ds ((d, .tuple #[.bool true, .int .i64 k, vf u]) :: l) → (k, u) ∈ s → k ∉ q.map Prod.fst → q.length < s.length → St w' M (ItO mv es clock i (encE vf (q ++ [(k, u)])) :: H) → next a w') :
    (⟨some d, .next x false, ty, pos, af, gd⟩ : Oper).wpIn (Fw r) 0 P a w next Q := by
  have hs : (s.map Prod.fst).Nodup := by obtain ⟨_, _, _, h⟩ := F; have := h.nd; rwa [keys_encE] at this
  refine X_next E S hd F hx (by rw [keys_encE]; exact hp) ?_ (fun a E h S => k0 a E ((List.perm_ext_iff_of_nodup (nodup_of_keys hp) (nodup_of_keys hs)).2 fun z => ⟨hL z, fun hz => ?_⟩) S) fun a w' k v E h1 h2 h3 S => ?_
  · intro z hz
    obtain ⟨y, hy, rfl⟩ := List.mem_map.1 hz
    exact List.mem_map_of_mem (f := fun p : Int × β => (p.1, vf p.2)) (hL y hy)
  · have : (z.1, vf z.2) ∈ encE vf q := h.symm.subset (List.mem_map_of_mem (f := fun p : Int × β => (p.1, vf p.2)) hz)
    obtain ⟨y, hy, e⟩ := List.mem_map.1 this
    simp only [Prod.mk.injEq] at e
    rw [← inj_of_keys hs (hL y hy) hz e.1]; exact hy
  · obtain ⟨y, hy, e⟩ := List.mem_map.1 h1
    simp only [Prod.mk.injEq] at e
    obtain ⟨rfl, rfl⟩ := e
    rw [keys_encE] at h2
    exact k1 a w' y.1 y.2 E hy h2 (by simpa [encE] using h3) (by simpa [encE] using S)
end
end Go.Sl
