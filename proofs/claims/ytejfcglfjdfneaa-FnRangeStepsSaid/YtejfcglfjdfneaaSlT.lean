import Derived.Test.YtejfcglfjdfneaaSlV
/-! A range over an owned map, while the entry that was told last is changed or deleted. -/
set_option linter.unusedVariables false
namespace Go.Sl
open Go
section
variable {P : Program} {t kt et ty : TypeId} {z : Value} {w : World} {b : Nat} {es : Array MapEntry} {clock : Nat} {l : List (Int × Value)} {k : Int} {v : Value}
theorem run_update_at (hk : k ∈ l.map Prod.fst) (T : MapT P t kt et z) (hb : w.heap[b]? = some (.map es clock)) (h : MapEs es clock l) :
    ∃ es', (Instr.mapUpdate t (.map (some b)) (.int .i64 k) v).run P w = .ok () { w with heap := w.heap.setIfInBounds b (.map es' clock) } ∧ MapEs es' clock (putK l k v) ∧ ∀ q' ∈ es'.toList, ∃ q ∈ es.toList, q.key = q'.key ∧ q.born = q'.born := by
  · obtain ⟨j, v0, h1, h2, h3, h4⟩ := findNow_some es.toList l 0 h.rd hk
    have hj := (List.getElem?_eq_some_iff.1 h2).1
    have hlen : es.size = l.length := by have := congrArg List.length h.rd; simpa using this
    have he : j < es.size := by omega
    have hkey : es[j].key = .int .i64 k := by
      have := congrArg (fun q => q[j]?) h.rd
      simp only [List.getElem?_map, h2, Option.map_some] at this
      rw [Array.getElem?_toList, Array.getElem?_eq_getElem he] at this
      simp at this; exact this.1
    refine ⟨es.modify j fun e => { e with key := .int .i64 k, val := v }, ?_, ?_⟩
    · simp [Instr.mapUpdate, Instr.findKey, run_underlying T.und, run_underlying T.key, MapKept.run_getObj_map hb, T.check, h1, Instr.keyThatStays, Instr.sameBits, he, hkey, MapKept.run_setObj_map _ hb, Result.andThen]
    · rw [h4]
      have e1 : (es.modify j fun e => { e with key := .int .i64 k, val := v }).toList = es.toList.set j { es[j] with key := .int .i64 k, val := v } := by
        rw [Array.toList_modify]; apply List.ext_getElem?; intro i
        rw [List.getElem?_modify, List.getElem?_set]
        by_cases hij : j = i
        · subst hij; rw [if_pos rfl, if_pos (by simpa using he), Array.getElem?_toList, Array.getElem?_eq_getElem he]; simp
        · rw [if_neg hij]; simp [hij]
      refine ⟨⟨?_, ?_, fun e he' => ?_, ?_⟩, fun q' hq' => ?_⟩
      · rw [e1, List.map_set, List.map_set, h.rd]
      · have : (l.set j (k, v)).map Prod.fst = l.map Prod.fst := by
          rw [List.map_set]; apply List.ext_getElem?; intro i; rw [List.getElem?_set]
          by_cases hij : j = i
          · subst hij; rw [if_pos rfl, if_pos (by simpa using hj)]; simp [h2]
          · rw [if_neg hij]
        rw [this]; exact h.nd
      · rw [e1] at he'
        rcases List.mem_or_eq_of_mem_set he' with h5 | rfl
        · exact h.lt e h5
        · exact h.lt es[j] (by simp)
      · rw [e1, List.map_set]
        have : (es.toList.map (·.born)).set j es[j].born = es.toList.map (·.born) := by
          apply List.ext_getElem?; intro i; rw [List.getElem?_set]
          by_cases hij : j = i
          · subst hij; rw [if_pos rfl, if_pos (by simpa using he)]; simp [he]
          · rw [if_neg hij]
        show ((es.toList.map (·.born)).set j es[j].born).Nodup
        rw [this]; exact h.st
      · rw [e1] at hq'
        rcases List.mem_or_eq_of_mem_set hq' with h5 | rfl
        · exact ⟨q', h5, rfl, rfl⟩
        · exact ⟨es[j], by simp, hkey, rfl⟩
theorem run_delete_at (T : MapT P t kt et z) (hb : w.heap[b]? = some (.map es clock)) (h : MapEs es clock l) :
    ∃ es', (Builtin.delete_ #[t, kt] ty #[.map (some b), .int .i64 k]).run P w = .ok (.tuple #[]) { w with heap := w.heap.setIfInBounds b (.map es' clock) } ∧ MapEs es' clock (delK l k) ∧ ∀ q ∈ es'.toList, q ∈ es.toList := by
  have hlen : es.size = l.length := by have := congrArg List.length h.rd; simpa using this
  by_cases hk : k ∈ l.map Prod.fst
  · obtain ⟨j, v0, h1, h2, h3, h4⟩ := findNow_some es.toList l 0 h.rd hk
    have hj := (List.getElem?_eq_some_iff.1 h2).1
    have e0 : delK l k = l.eraseIdx j := by
      have h5 : ∀ (l : List (Int × Value)) j v0, (l.map Prod.fst).Nodup → l[j]? = some (k, v0) → delK l k = l.eraseIdx j := by
        intro l
        induction l with
        | nil => intro j v0 _ h; simp at h
        | cons p l ih =>
          intro j v0 hn hj
          rw [List.map_cons, List.nodup_cons] at hn
          cases j with
          | zero =>
            simp at hj; subst hj
            have : ∀ q ∈ l, q.1 ≠ k := fun q hq e => hn.1 (by show k ∈ _; rw [← e]; exact List.mem_map_of_mem (f := Prod.fst) hq)
            simp only [delK, List.eraseIdx_zero, List.tail_cons]
            rw [List.filter_cons_of_neg (by simp), List.filter_eq_self.2 (by simpa using this)]
          | succ j =>
            have hm : (k, v0) ∈ l := List.mem_of_getElem? (by simpa using hj)
            have hp : p.1 ≠ k := fun e => hn.1 (by rw [e]; exact List.mem_map_of_mem (f := Prod.fst) hm)
            simp only [delK, List.eraseIdx_cons_succ]
            rw [List.filter_cons_of_pos (by simpa using hp)]
            congr 1; exact ih j v0 hn.2 (by simpa using hj)
      exact h5 l j v0 h.nd h2
    refine ⟨es.eraseIdxIfInBounds j, ?_, ?_⟩
    · simp [Builtin.delete_, Instr.findKey, run_underlying T.und, run_underlying T.key, MapKept.run_getObj_map hb, T.check, h1, MapKept.run_setObj_map _ hb, Result.andThen]
    · have e1 : (es.eraseIdxIfInBounds j).toList = es.toList.eraseIdx j := by
        unfold Array.eraseIdxIfInBounds; rw [dif_pos (by omega)]; simp
      rw [e0]
      refine ⟨⟨?_, ?_, fun e he => ?_, ?_⟩, fun q hq => by rw [e1] at hq; exact (List.eraseIdx_sublist ..).subset hq⟩
      · rw [e1, ← eraseIdx_map', h.rd, eraseIdx_map']
      · rw [← eraseIdx_map']; exact h.nd.sublist (List.eraseIdx_sublist ..)
      · rw [e1] at he; exact h.lt e ((List.eraseIdx_sublist ..).subset he)
      · rw [e1, ← eraseIdx_map']; exact h.st.sublist (List.eraseIdx_sublist ..)
  · have h1 := findNow_none es.toList l 0 h.rd hk
    have e0 : delK l k = l := by
      unfold delK; apply List.filter_eq_self.2; intro p hp; simp; intro e; exact hk (by rw [← e]; exact List.mem_map_of_mem hp)
    refine ⟨es, ?_, ⟨by rw [e0]; exact h, fun q hq => hq⟩⟩
    simp [Builtin.delete_, Instr.findKey, run_underlying T.und, run_underlying T.key, MapKept.run_getObj_map hb, T.check, h1, MapKept.run_setObj_map _ hb, Result.andThen]
end
/-- the map b holds L; the iterator i has told the keys D; the entry that it told last -/
def WInv (es : Array MapEntry) (clock since : Nat) (seen : Array Nat) (last : Nat) (L : List (Int × Value)) (D : List Int) (cur : Option (Int × Value)) : Prop :=
  MapEs es clock L ∧ (∀ x ∈ es.toList, x.born < since) ∧ since ≤ last ∧ since ≤ clock ∧ (∀ q ∈ es.toList, (q.born ∈ seen ↔ ∃ k ∈ D, q.key = .int .i64 k)) ∧
    (∀ k v, cur = some (k, v) → ∃ (e : MapEntry) (s' : Array Nat), e ∈ es.toList ∧ e.key = .int .i64 k ∧ e.val = v ∧ seen = s'.push e.born ∧ last = clock)
theorem born_inj {es : Array MapEntry} (hst : (es.toList.map (·.born)).Nodup) {q e : MapEntry} (hq : q ∈ es.toList) (he : e ∈ es.toList) (h : q.born = e.born) : q = e := by
  rw [List.Nodup, List.pairwise_map] at hst
  obtain ⟨a1, h2⟩ := List.getElem?_of_mem hq
  obtain ⟨a2, h3⟩ := List.getElem?_of_mem he
  have l1 := (List.getElem?_eq_some_iff.1 h2).1
  have l2 := (List.getElem?_eq_some_iff.1 h3).1
  have g1 : es.toList[a1] = q := Option.some.inj ((List.getElem?_eq_getElem l1).symm.trans h2)
  have g2 : es.toList[a2] = e := Option.some.inj ((List.getElem?_eq_getElem l2).symm.trans h3)
  rcases Nat.lt_trichotomy a1 a2 with c | c | c
  · exact absurd (by rw [g1, g2, h]) (List.pairwise_iff_getElem.1 hst a1 a2 l1 l2 c)
  · subst c; rw [← g1, g2]
  · exact absurd (by rw [g1, g2, h]) (List.pairwise_iff_getElem.1 hst a2 a1 l2 l1 c)
theorem key_inj {es : Array MapEntry} {clock : Nat} {L : List (Int × Value)} (h : MapEs es clock L) {q e : MapEntry} (hq : q ∈ es.toList) (he : e ∈ es.toList) (hk : q.key = e.key) : q.born = e.born := by
  obtain ⟨a1, h2⟩ := List.getElem?_of_mem hq
  obtain ⟨a2, h3⟩ := List.getElem?_of_mem he
  have l1 := (List.getElem?_eq_some_iff.1 h2).1
  have l2 := (List.getElem?_eq_some_iff.1 h3).1
  have g1 : es.toList[a1] = q := Option.some.inj ((List.getElem?_eq_getElem l1).symm.trans h2)
  have g2 : es.toList[a2] = e := Option.some.inj ((List.getElem?_eq_getElem l2).symm.trans h3)
  have hkeys : (es.toList.map (fun e => e.key)).Nodup := by
    have : es.toList.map (fun e => e.key) = (L.map Prod.fst).map (Value.int .i64) := by
      have := congrArg (List.map Prod.fst) h.rd
      simpa [List.map_map, Function.comp_def] using this
    rw [this]; exact List.Pairwise.map _ (fun a b hab e => hab (by simpa using e)) h.nd
  rw [List.Nodup, List.pairwise_map] at hkeys
  rcases Nat.lt_trichotomy a1 a2 with c | c | c
  · exact absurd (by rw [g1, g2, hk]) (List.pairwise_iff_getElem.1 hkeys a1 a2 l1 l2 c)
  · subst c; rw [← g1, g2]
  · exact absurd (by rw [g1, g2, hk]) (List.pairwise_iff_getElem.1 hkeys a2 a1 l2 l1 c)
def ItW (b i : Nat) (L : List (Int × Value)) (D : List Int) (cur : Option (Int × Value)) : HProp := fun h =>
  ∃ es clock since seen last, WInv es clock since seen last L D cur ∧ bigs [blk b (.map es clock), blk i (.mapIter (some b) since seen last)] h
section
variable {r : Option Nat} {P : Program} {ops : Array Oper} {Q : Exit → Act → World → Prop} {a : Act} {w : World}
  {n : Nat} {ds : List Deferred} {l : List (Nat × Value)} {d : Nat} {op : Op} {ty t kt et : TypeId} {pos : String} {af : Array Edge} {gd : Option (Nat × Bool)} {x y z : Operand}
  {next : Act → World → Prop} {M : Hp} {H : List HProp} {zv : Value} {b i : Nat} {k : Int} {v : Value} {L : List (Int × Value)} {D : List Int} {cur : Option (Int × Value)}
theorem St.openW (S : St w M (ItW b i L D cur :: H)) : ∃ es clock since seen last, WInv es clock since seen last L D cur ∧ St w M (blk b (.map es clock) :: blk i (.mapIter (some b) since seen last) :: H) := by
  obtain ⟨es, S⟩ := S.ex
  obtain ⟨clock, S⟩ := S.ex
  obtain ⟨since, S⟩ := S.ex
  obtain ⟨seen, S⟩ := S.ex
  obtain ⟨last, S⟩ := S.ex
  obtain ⟨h, S⟩ := S.pure_
  exact ⟨es, clock, since, seen, last, h, S.unpack2⟩
theorem St.closeW {es : Array MapEntry} {clock since last : Nat} {seen : Array Nat} (h : WInv es clock since seen last L D cur) (S : St w M (blk b (.map es clock) :: blk i (.mapIter (some b) since seen last) :: H)) : St w M (ItW b i L D cur :: H) :=
  (S.pack [_, _]).imp fun g e => ⟨es, clock, since, seen, last, h, e⟩
theorem St.endW (S : St w M (ItW b i L D cur :: H)) : St w M (OwnM b L :: H) := by
  obtain ⟨es, clock, since, seen, last, h, S⟩ := S.openW
  exact (S.swap.drop).putM h.1
theorem X_rangeW (E : Env a n ds l) (S : St w M (OwnM b L :: H)) (hd : Nat.blt d n = true) (T : MapT P t kt et zv) (hx : opv l x = some (.map (some b)))
    (kk : ∀ a w' i, Env a n ds ((d, .pointer (some ⟨i, 0, none⟩)) :: l) → St w' M (ItW b i L [] none :: H) → next a w') : (⟨some d, .range t x, ty, pos, af, gd⟩ : Oper).wpIn (Fw r) 0 P a w next Q := by
  obtain ⟨es, clock, hb, h, S1⟩ := S.getM
  refine X_val E hd rfl (v := .pointer (some ⟨w.heap.size, 0, none⟩)) (w' := w.alloc (.mapIter (some b) clock #[] clock)) ?_ fun a E => kk a _ _ E
    (St.closeW (es := es) (clock := clock) (since := clock) (seen := #[]) (last := clock) ⟨h, h.lt, Nat.le_refl _, Nat.le_refl _, fun q hq => by simp, fun k v e => by cases e⟩ (S1.new (o := .mapIter (some b) clock #[] clock) rfl).swap)
  simp [execOp, Instr.range, E.eval hx, run_underlying T.und, MapKept.run_getObj_map hb, Result.andThen]
theorem X_updateW (E : Env a n ds l) (S : St w M (ItW b i L D cur :: H)) (T : MapT P t kt et zv) (hx : opv l x = some (.map (some b))) (hy : opv l y = some (.int .i64 k)) (hz : opv l z = some v) (hk : k ∈ L.map Prod.fst)
    (kk : ∀ a w', Env a n ds l → St w' M (ItW b i (putK L k v) D none :: H) → next a w') : (⟨none, .mapUpdate t x y z, ty, pos, af, gd⟩ : Oper).wpIn (Fw r) 0 P a w next Q := by
  obtain ⟨es, clock, since, seen, last, ⟨h, h1, h2, h3, h4, _⟩, S1⟩ := S.openW
  have hb := S1.get
  obtain ⟨es', hr, h', hkeep⟩ := run_update_at (v := v) (k := k) hk T hb h
  refine X_skip (w' := { w with heap := w.heap.setIfInBounds b (.map es' clock) }) E rfl ?_ fun a E => kk a _ E (St.closeW (since := since) (seen := seen) (last := last) ⟨h', fun q hq => ?_, h2, h3, fun q hq => ?_, fun k v e => by cases e⟩ (S1.set (o' := .map es' clock) ?_ ?_))
  · simp only [execOp, E.eval hx, E.eval hy, E.eval hz]; simp [hr]
  · obtain ⟨q0, h5, _, h7⟩ := hkeep q hq; rw [← h7]; exact h1 q0 h5
  · obtain ⟨q0, h5, h6, h7⟩ := hkeep q hq; rw [← h7, ← h6]; exact h4 q0 h5
  · have := (Array.getElem?_eq_some_iff.1 hb).1; simp [this]
  · intro c hc x hx; simp only [Array.getElem?_setIfInBounds]; rw [if_neg (Ne.symm hc)]; exact hx
theorem X_delete0W (E : Env a n ds l) (S : St w M (ItW b i L D cur :: H)) (T : MapT P t kt et zv) (hx : opv l x = some (.map (some b))) (hy : opv l y = some (.int .i64 k))
    (kk : ∀ a w', Env a n ds l → St w' M (ItW b i (delK L k) D none :: H) → next a w') : (⟨none, .call ⟨.builtin .delete, #[x, y], #[t, kt]⟩, ty, pos, af, gd⟩ : Oper).wpIn (Fw r) 0 P a w next Q := by
  obtain ⟨es, clock, since, seen, last, ⟨h, h1, h2, h3, h4, _⟩, S1⟩ := S.openW
  have hb := S1.get
  obtain ⟨es', hr, h', hkeep⟩ := run_delete_at (ty := ty) (k := k) T hb h
  have hE : Env (a.put none (.tuple #[])) n ds l := E
  refine wpIn_value (v := .tuple #[]) (w' := { w with heap := w.heap.setIfInBounds b (.map es' clock) }) rfl ?_ (kk _ _ hE (St.closeW (since := since) (seen := seen) (last := last) ⟨h', fun q hq => h1 q (hkeep q hq), h2, h3, fun q hq => h4 q (hkeep q hq), fun k v e => by cases e⟩ (S1.set (o' := .map es' clock) ?_ ?_)))
  · simp only [execOp, resolve, invoke, builtin]; simp [E.eval hx, E.eval hy, hr]
  · have := (Array.getElem?_eq_some_iff.1 hb).1; simp [this]
  · intro c hc x hx; simp only [Array.getElem?_setIfInBounds]; rw [if_neg (Ne.symm hc)]; exact hx
theorem X_nextW (E : Env a n ds l) (S : St w M (ItW b i L D cur :: H)) (hd : Nat.blt d n = true) (hx : opv l x = some (.pointer (some ⟨i, 0, none⟩)))
    (k0 : ∀ a, Env a n ds ((d, .tuple #[.bool false]) :: l) → (∀ z ∈ L, z.1 ∈ D) → St w M (OwnM b L :: H) → next a w)
    (k1 : ∀ a w' k v, Env a n ds ((d, .tuple #[.bool true, .int .i64 k, v]) :: l) → (k, v) ∈ L → k ∉ D → St w' M (ItW b i L (D ++ [k]) (some (k, v)) :: H) → next a w') :
    (⟨some d, .next x false, ty, pos, af, gd⟩ : Oper).wpIn (Fw r) 0 P a w next Q := by
  have S0 := S
  obtain ⟨es, clock, since, seen, last, ⟨h, h1, h2, h3, h4, _⟩, S1⟩ := S.openW
  have hmem : ∀ z : Int × Value, z ∈ L ↔ ∃ q ∈ es.toList, (q.key, q.val) = (Value.int .i64 z.1, z.2) := by
    intro z
    have : (Value.int .i64 z.1, z.2) ∈ es.toList.map (fun e => (e.key, e.val)) ↔ (Value.int .i64 z.1, z.2) ∈ L.map (fun p => (Value.int .i64 p.1, p.2)) := by rw [h.rd]
    rw [List.mem_map, List.mem_map] at this
    constructor
    · intro hz; exact (this.2 ⟨z, hz, rfl⟩)
    · intro hz; obtain ⟨u, hu, e⟩ := this.1 hz
      simp only [Prod.mk.injEq, Value.int.injEq, true_and] at e
      rw [show z = u from Prod.ext e.1.symm e.2.symm]; exact hu
  rcases run_next_at (P := P) w ty i b since last seen es clock S1.swap.get S1.get h1 h2 with ⟨h0, hr⟩ | ⟨e, he, w1, hw1, hr⟩
  · refine X_val E hd rfl (v := .tuple #[.bool false]) (w' := w) (by simp only [execOp, E.eval hx]; simp [hr]) fun a E => k0 a E ?_ S0.endW
    intro z hz
    obtain ⟨q, hq, e⟩ := (hmem z).1 hz
    have : q.born ∈ seen := by
      apply Classical.byContradiction; intro hn
      have : q ∈ (leftOf es seen).toList := by unfold leftOf; simp; exact ⟨by simpa using hq, hn⟩
      have h5 : (leftOf es seen).toList = [] := by rw [Array.eq_empty_of_size_eq_zero h0]
      rw [h5] at this; cases this
    obtain ⟨k, hk, hk2⟩ := (h4 q hq).1 this
    simp only [Prod.mk.injEq] at e
    rw [e.1] at hk2
    have : z.1 = k := by simpa using hk2
    rw [this]; exact hk
  · unfold leftOf at he
    simp only [Array.toList_filter, List.mem_filter, Bool.not_eq_true', Array.contains_eq_mem, decide_eq_false_iff_not] at he
    obtain ⟨he1, he2⟩ := he
    obtain ⟨z, hz, hze⟩ : ∃ z ∈ L, (e.key, e.val) = (Value.int .i64 z.1, z.2) := by
      have : (e.key, e.val) ∈ L.map (fun p => (Value.int .i64 p.1, p.2)) := by rw [← h.rd]; exact List.mem_map_of_mem (f := fun e : MapEntry => (e.key, e.val)) he1
      obtain ⟨z, hz, e'⟩ := List.mem_map.1 this
      exact ⟨z, hz, e'.symm⟩
    obtain ⟨k, v⟩ := z
    simp only [Prod.mk.injEq] at hze
    have hnk : k ∉ D := fun hk => he2 ((h4 e he1).2 ⟨k, hk, hze.1⟩)
    have S2 : St w1 M (blk b (.map es clock) :: blk i (.mapIter (some b) since seen last) :: H) := by
      rcases hw1 with rfl | rfl
      · exact S1
      · exact S1.mono_heap rfl
    refine X_val E hd rfl (v := .tuple #[.bool true, .int .i64 k, v]) (w' := ChangeMaps.setBlock w1 i (.mapIter (some b) since (seen.push e.born) clock)) (by simp only [execOp, E.eval hx]; simp [hr, hze.1, hze.2]) fun a E =>
      k1 a _ k v E hz hnk (St.closeW (es := es) (clock := clock) (since := since) (seen := seen.push e.born) (last := clock) ⟨h, h1, h3, h3, fun q hq => ?_, fun k' v' e1 => ?_⟩ (S2.swap.set (o' := .mapIter (some b) since (seen.push e.born) clock) ?_ ?_).swap)
    · rw [Array.mem_push, h4 q hq]
      constructor
      · rintro (⟨k', h5, h6⟩ | h5)
        · exact ⟨k', List.mem_append_left _ h5, h6⟩
        · have : q = e := born_inj h.st hq he1 h5
          rw [this]; exact ⟨k, by simp, hze.1⟩
      · rintro ⟨k', h5, h6⟩
        rcases List.mem_append.1 h5 with h5 | h5
        · exact .inl ⟨k', h5, h6⟩
        · right
          have hkk : k' = k := by simpa using h5
          subst hkk
          rw [key_inj h hq he1 (h6.trans hze.1.symm)]
    · cases e1; exact ⟨e, seen, he1, hze.1, hze.2, rfl, rfl⟩
    · have := (Array.getElem?_eq_some_iff.1 S2.swap.get).1; simp [ChangeMaps.setBlock, this]
    · intro c hc x hx; simp only [ChangeMaps.setBlock, Array.getElem?_setIfInBounds]; rw [if_neg (Ne.symm hc)]; exact hx
theorem R_entryW (E : Env a n ds l) (S : St w M (ItW b i L D (some (k, v)) :: H)) (hx : opv l x = some (.pointer (some ⟨i, 0, none⟩))) :
    (execOp a.eval ⟨some d, .entry x, ty, pos, af, gd⟩).run P w = .ok (.value (.tuple #[.int .i64 k, v])) w := by
  obtain ⟨es, clock, since, seen, last, ⟨h, h1, h2, h3, h4, h5⟩, S1⟩ := S.openW
  obtain ⟨e, s', he, hk, hv, rfl, rfl⟩ := h5 k v rfl
  have hr := run_entry_at (P := P) w i b since s' es last e S1.swap.get S1.get he h.st
  simp only [execOp, E.eval hx]; simp [hr, hk, hv]
theorem e_entryW (E : Env a n ds l) (S : St w M (ItW b i L D (some (k, v)) :: H)) (hx : opv l x = some (.pointer (some ⟨i, 0, none⟩))) {r0 : Option Nat} {os0 : Array Oper} {Q0 : Exit → Act → World → Prop} {rest0 : List Oper} (k0 : ∀ a, Env a n ds ((d, (.tuple #[.int .i64 k, v])) :: l) → WL r0 P os0 Q0 rest0 a w) (hd0 : Nat.blt d n = true := by rfl) : WL r0 P os0 Q0 (⟨some d, .entry x, ty, pos, af, none⟩ :: rest0) a w := O_val E hd0 rfl (R_entryW E S hx) k0
theorem X_nextWE {β : Type} {vf : β → Value} {q : List (Int × β)} (E : Env a n ds l) (S : St w M (ItW b i (encE vf q) D cur :: H)) (hd : Nat.blt d n = true) (hx : opv l x = some (.pointer (some ⟨i, 0, none⟩)))
    (k0 : ∀ a, Env a n ds ((d, .tuple #[.bool false]) :: l) → (∀ z ∈ q, z.1 ∈ D) → St w M (OwnE vf b q :: H) → next a w)
    (k1 : ∀ a w' k u, Env a n ds ((d, .tuple #[.bool true, .int .i64 k, vf u]) :: l) → (k, u) ∈ q → k ∉ D → St w' M (ItW b i (encE vf q) (D ++ [k]) (some (k, vf u)) :: H) → next a w') :
    (⟨some d, .next x false, ty, pos, af, gd⟩ : Oper).wpIn (Fw r) 0 P a w next Q := by
  refine X_nextW E S hd hx (fun a E h S => k0 a E (fun z hz => h (z.1, vf z.2) (List.mem_map_of_mem (f := fun p : Int × β => (p.1, vf p.2)) hz)) S) fun a w' k v E h1 h2 S => ?_
  obtain ⟨u, hu, e⟩ := List.mem_map.1 h1
  simp only [Prod.mk.injEq] at e
  obtain ⟨e1, e2⟩ := e
  subst e1; subst e2
  exact k1 a w' u.1 u.2 E hu h2 S
theorem X_updateWE {β : Type} {vf : β → Value} {q : List (Int × β)} {u : β} (E : Env a n ds l) (S : St w M (ItW b i (encE vf q) D cur :: H)) (T : MapT P t kt et zv) (hx : opv l x = some (.map (some b))) (hy : opv l y = some (.int .i64 k)) (hz : opv l z = some (vf u)) (hk : k ∈ q.map Prod.fst)
    (kk : ∀ a w', Env a n ds l → St w' M (ItW b i (encE vf (putK q k u)) D none :: H) → next a w') : (⟨none, .mapUpdate t x y z, ty, pos, af, gd⟩ : Oper).wpIn (Fw r) 0 P a w next Q :=
  X_updateW E S T hx hy hz (by rw [keys_encE]; exact hk) fun a w' E S => kk a w' E (by unfold encE at S; rw [putK_map] at S; exact S)
theorem X_delete0WE {β : Type} {vf : β → Value} {q : List (Int × β)} (E : Env a n ds l) (S : St w M (ItW b i (encE vf q) D cur :: H)) (T : MapT P t kt et zv) (hx : opv l x = some (.map (some b))) (hy : opv l y = some (.int .i64 k))
    (kk : ∀ a w', Env a n ds l → St w' M (ItW b i (encE vf (delK q k)) D none :: H) → next a w') : (⟨none, .call ⟨.builtin .delete, #[x, y], #[t, kt]⟩, ty, pos, af, gd⟩ : Oper).wpIn (Fw r) 0 P a w next Q :=
  X_delete0W E S T hx hy fun a w' E S => kk a w' E (by rw [delK_encE] at S; exact S)
theorem St.reW {L' : List (Int × Value)} {D' : List Int} (s : St w M (ItW b i L D cur :: H)) (e : L = L') (e' : D = D') : St w M (ItW b i L' D' none :: H) := by
  subst e; subst e'
  obtain ⟨es, clock, since, seen, last, ⟨h, h1, h2, h3, h4, _⟩, S1⟩ := s.openW
  exact St.closeW ⟨h, h1, h2, h3, h4, fun k v e => by cases e⟩ S1
end
end Go.Sl
