import Derived.Test.YtejfcglfjdfneaaSlO
import Derived.MapKept
/-! Maps whose keys are integers. -/
set_option linter.unusedVariables false
namespace Go.Sl
open Go
structure MapT (P : Program) (t kt et : TypeId) (z : Value) : Prop where
  und : P.underlying t = some (.map kt et)
  key : P.underlying kt = some (.int .i64)
  inf : ∃ i : TypeInfo, P.info? et = some i ∧ i.zero = some z
/-- The entries es, under the clock, are the pairs l, in the order of their births. -/
structure MapEs (es : Array MapEntry) (clock : Nat) (l : List (Int × Value)) : Prop where
  rd : es.toList.map (fun e => (e.key, e.val)) = l.map (fun p => (Value.int .i64 p.1, p.2))
  nd : (l.map Prod.fst).Nodup
  lt : ∀ e ∈ es.toList, e.born < clock
  st : (es.toList.map (·.born)).Nodup
def OwnM (b : Nat) (l : List (Int × Value)) : HProp := fun h => ∃ o, (∃ es clock, o = Obj.map es clock ∧ MapEs es clock l) ∧ h = Hp.one b o
def hasK {β : Type} (l : List (Int × β)) (k : Int) : Bool := decide (k ∈ l.map Prod.fst)
def getK {β : Type} (z : β) : List (Int × β) → Int → β
  | [], _ => z
  | p :: l, k => if p.1 = k then p.2 else getK z l k
def putK {β : Type} : List (Int × β) → Int → β → List (Int × β)
  | [], k, v => [(k, v)]
  | p :: l, k, v => if p.1 = k then (k, v) :: l else p :: putK l k v
def delK {β : Type} (l : List (Int × β)) (k : Int) : List (Int × β) := l.filter (fun p => decide (p.1 ≠ k))
theorem putK_keys {β : Type} (l : List (Int × β)) (k : Int) (v : β) : (putK l k v).map Prod.fst = if k ∈ l.map Prod.fst then l.map Prod.fst else l.map Prod.fst ++ [k] := by
  induction l with
  | nil => simp [putK]
  | cons p l ih =>
    simp only [putK]
    by_cases h : p.1 = k
    · simp [h]
    · rw [if_neg h, List.map_cons, ih]
      by_cases h2 : k ∈ l.map Prod.fst
      · rw [if_pos h2, if_pos (by simp at h2 ⊢; exact .inr h2)]; rfl
      · rw [if_neg h2, if_neg (by simp at h2 ⊢; exact ⟨fun e => h e.symm, h2⟩)]; rfl
theorem putK_nodup {β : Type} {l : List (Int × β)} (h : (l.map Prod.fst).Nodup) (k : Int) (v : β) : ((putK l k v).map Prod.fst).Nodup := by
  rw [putK_keys]; split
  · exact h
  · rename_i hk; exact List.nodup_append.2 ⟨h, by simp, fun a ha b hb e => hk (by simp at hb; rw [← hb, ← e]; exact ha)⟩
theorem putK_map {β γ : Type} (f : β → γ) (l : List (Int × β)) (k : Int) (v : β) : putK (l.map fun p => (p.1, f p.2)) k (f v) = (putK l k v).map fun p => (p.1, f p.2) := by
  induction l with
  | nil => rfl
  | cons p l ih => simp only [List.map_cons, putK]; split <;> simp [ih]
theorem getK_map {β γ : Type} (f : β → γ) (z : β) (l : List (Int × β)) (k : Int) : getK (f z) (l.map fun p => (p.1, f p.2)) k = f (getK z l k) := by
  induction l with
  | nil => rfl
  | cons p l ih => simp only [List.map_cons, getK]; split <;> simp [ih]
theorem hasK_map {β γ : Type} (f : β → γ) (l : List (Int × β)) (k : Int) : hasK (l.map fun p => (p.1, f p.2)) k = hasK l k := by
  unfold hasK; rw [List.map_map]; rfl
theorem findNow_none {k : Int} : ∀ (es : List MapEntry) (l : List (Int × Value)) (i : Nat), es.map (fun e => (e.key, e.val)) = l.map (fun p => (Value.int .i64 p.1, p.2)) → k ∉ l.map Prod.fst → Instr.findNow (.int .i64) (.int .i64 k) es i = some none
  | [], _, _, _, _ => rfl
  | e :: es, [], _, h, _ => by simp at h
  | e :: es, p :: l, i, h, hk => by
    simp only [List.map_cons, List.cons.injEq, Prod.mk.injEq] at h
    have hne : (k == p.1) = false := by simp at hk; simpa using hk.1
    simp only [Instr.findNow, h.1.1, Instr.sameNow, if_true, hne]
    exact findNow_none es l (i + 1) h.2 (by simp at hk ⊢; exact hk.2)
theorem findNow_some {k : Int} : ∀ (es : List MapEntry) (l : List (Int × Value)) (i : Nat), es.map (fun e => (e.key, e.val)) = l.map (fun p => (Value.int .i64 p.1, p.2)) → k ∈ l.map Prod.fst →
    ∃ j v, Instr.findNow (.int .i64) (.int .i64 k) es i = some (some (i + j, v)) ∧ l[j]? = some (k, v) ∧ (∀ z, getK z l k = v) ∧ ∀ u, putK l k u = l.set j (k, u)
  | [], l, _, h, hk => by cases l with
    | nil => simp at hk
    | cons p l => simp at h
  | e :: es, [], _, _, hk => by simp at hk
  | e :: es, p :: l, i, h, hk => by
    simp only [List.map_cons, List.cons.injEq, Prod.mk.injEq] at h
    by_cases hp : p.1 = k
    · refine ⟨0, p.2, ?_, by simp [← hp], fun z => by simp [getK, hp], fun u => by simp [putK, hp]⟩
      have : (k == p.1) = true := by simp [hp]
      simp [Instr.findNow, h.1.1, Instr.sameNow, this, h.1.2]
    · have hk2 : k ∈ l.map Prod.fst := by
        rw [List.map_cons, List.mem_cons] at hk
        exact hk.resolve_left fun e => hp e.symm
      obtain ⟨j, v, h1, h2, h3, h4⟩ := findNow_some es l (i + 1) h.2 hk2
      have hne : (k == p.1) = false := by simp; exact fun e => hp e.symm
      refine ⟨j + 1, v, ?_, by simpa using h2, fun z => by simp [getK, hp, h3], fun u => by simp [putK, hp, h4]⟩
      simp only [Instr.findNow, h.1.1, Instr.sameNow, if_true, hne]
      rw [h1, show i + 1 + j = i + (j + 1) by omega]
theorem eraseIdx_map' {α β : Type} (f : α → β) : ∀ (l : List α) (j : Nat), (l.map f).eraseIdx j = (l.eraseIdx j).map f
  | [], _ => rfl
  | _ :: _, 0 => rfl
  | a :: l, j + 1 => by simp only [List.map_cons, List.eraseIdx_cons_succ, eraseIdx_map' f l j]
section
variable {P : Program} {t kt et ty : TypeId} {z : Value} {w : World} {b : Nat} {es : Array MapEntry} {clock : Nat} {l : List (Int × Value)} {k : Int} {v : Value}
theorem MapT.zero (T : MapT P t kt et z) (w : World) : (zeroValue et).run P w = .ok z w := by
  obtain ⟨i, h1, h2⟩ := T.inf; simp [zeroValue, typeInfo, h1, h2]
theorem MapT.check (T : MapT P t kt et z) (e : Bool) (w : World) : (Instr.checkKey e 10000 kt (.int .i64 k)).run P w = .ok () w := MapKept.run_checkKey (k := .int .i64 k) T.key (by simp [MapKept.IsKey]) e 9999
theorem getK_no {β : Type} {z : β} {k : Int} : ∀ {l : List (Int × β)}, k ∉ l.map Prod.fst → getK z l k = z
  | [], _ => rfl
  | p :: l, h => by
    simp only [List.map_cons, List.mem_cons, not_or] at h
    simp only [getK]; rw [if_neg fun e => h.1 e.symm]; exact getK_no h.2
theorem putK_no {β : Type} {u : β} {k : Int} : ∀ {l : List (Int × β)}, k ∉ l.map Prod.fst → putK l k u = l ++ [(k, u)]
  | [], _ => rfl
  | p :: l, h => by
    simp only [List.map_cons, List.mem_cons, not_or] at h
    simp only [putK]; rw [if_neg fun e => h.1 e.symm, putK_no h.2]; rfl
theorem run_lookup (T : MapT P t kt et z) (hb : w.heap[b]? = some (.map es clock)) (h : MapEs es clock l) (c : Bool) :
    (Instr.lookup t (.map (some b)) (.int .i64 k) c).run P w = .ok (if c then .tuple #[getK z l k, .bool (hasK l k)] else getK z l k) w := by
  by_cases hk : k ∈ l.map Prod.fst
  · obtain ⟨j, v, h1, h2, h3, _⟩ := findNow_some es.toList l 0 h.rd hk
    simp [Instr.lookup, Instr.findKey, run_underlying T.und, run_underlying T.key, MapKept.run_getObj_map hb, T.check, h1, h3, hasK, hk, Result.andThen]
  · have h1 := findNow_none es.toList l 0 h.rd hk
    simp [Instr.lookup, Instr.findKey, run_underlying T.und, run_underlying T.key, MapKept.run_getObj_map hb, T.check, h1, T.zero, getK_no hk, hasK, hk, Result.andThen]
theorem run_update (T : MapT P t kt et z) (hb : w.heap[b]? = some (.map es clock)) (h : MapEs es clock l) :
    ∃ es' clock', (Instr.mapUpdate t (.map (some b)) (.int .i64 k) v).run P w = .ok () { w with heap := w.heap.setIfInBounds b (.map es' clock') } ∧ MapEs es' clock' (putK l k v) := by
  by_cases hk : k ∈ l.map Prod.fst
  · obtain ⟨j, v0, h1, h2, h3, h4⟩ := findNow_some es.toList l 0 h.rd hk
    have hj := (List.getElem?_eq_some_iff.1 h2).1
    have hlen : es.size = l.length := by have := congrArg List.length h.rd; simpa using this
    have he : j < es.size := by omega
    have hkey : es[j].key = .int .i64 k := by
      have := congrArg (fun q => q[j]?) h.rd
      simp only [List.getElem?_map, h2, Option.map_some] at this
      rw [Array.getElem?_toList, Array.getElem?_eq_getElem he] at this
      simp at this; exact this.1
    refine ⟨es.modify j fun e => { e with key := .int .i64 k, val := v }, clock, ?_, ?_⟩
    · simp [Instr.mapUpdate, Instr.findKey, run_underlying T.und, run_underlying T.key, MapKept.run_getObj_map hb, T.check, h1, Instr.keyThatStays, Instr.sameBits, he, hkey, MapKept.run_setObj_map _ hb, Result.andThen]
    · rw [h4]
      have e1 : (es.modify j fun e => { e with key := .int .i64 k, val := v }).toList = es.toList.set j { es[j] with key := .int .i64 k, val := v } := by
        rw [Array.toList_modify]; apply List.ext_getElem?; intro i
        rw [List.getElem?_modify, List.getElem?_set]
        by_cases hij : j = i
        · subst hij; rw [if_pos rfl, if_pos (by simpa using he), Array.getElem?_toList, Array.getElem?_eq_getElem he]; simp
        · rw [if_neg hij]; simp [hij]
      refine ⟨?_, ?_, fun e he' => ?_, ?_⟩
      · rw [e1, List.map_set, List.map_set, h.rd]
      · have : (l.set j (k, v)).map Prod.fst = l.map Prod.fst := by
          rw [List.map_set]; apply List.ext_getElem?; intro i; rw [List.getElem?_set]
          by_cases hij : j = i
          · subst hij; rw [if_pos rfl, if_pos (by simpa using hj)]; simp [h2]
          · rw [if_neg hij]
        rw [this]; exact h.nd
      · rw [e1] at he'
        rcases List.mem_or_eq_of_mem_set he' with h5 | rfl
        · exact h.lt e h5
        · exact h.lt es[j] (by simp)
      · rw [e1, List.map_set]
        have : (es.toList.map (·.born)).set j es[j].born = es.toList.map (·.born) := by
          apply List.ext_getElem?; intro i; rw [List.getElem?_set]
          by_cases hij : j = i
          · subst hij; rw [if_pos rfl, if_pos (by simpa using he)]; simp [he]
          · rw [if_neg hij]
        show ((es.toList.map (·.born)).set j es[j].born).Nodup
        rw [this]; exact h.st
  · have h1 := findNow_none es.toList l 0 h.rd hk
    refine ⟨es.push { key := .int .i64 k, val := v, born := clock }, clock + 1, ?_, ?_⟩
    · simp [Instr.mapUpdate, Instr.findKey, run_underlying T.und, run_underlying T.key, MapKept.run_getObj_map hb, T.check, h1, MapKept.run_setObj_map _ hb, Result.andThen]
    · rw [putK_no hk]
      refine ⟨by simp only [Array.toList_push, List.map_append, h.rd]; rfl, ?_, fun e he => ?_, ?_⟩
      · rw [← putK_no (u := v) hk]; exact putK_nodup h.nd k v
      · simp only [Array.toList_push, List.mem_append, List.mem_singleton] at he
        rcases he with he | rfl
        · exact Nat.lt_succ_of_lt (h.lt e he)
        · exact Nat.lt_succ_self _
      · simp only [Array.toList_push, List.map_append]
        refine List.nodup_append.2 ⟨h.st, by simp, fun a ha c hc e => ?_⟩
        simp only [List.map_cons, List.map_nil, List.mem_singleton] at hc
        obtain ⟨x, hx, rfl⟩ := List.mem_map.1 ha
        have := h.lt x hx; omega
theorem run_lenM (T : MapT P t kt et z) (hb : w.heap[b]? = some (.map es clock)) (h : MapEs es clock l) : (Builtin.len_ #[t] ty #[.map (some b)]).run P w = .ok (.int .i64 (l.length : Nat)) w := by
  have hlen : es.size = l.length := by have := congrArg List.length h.rd; simpa using this
  simp [Builtin.len_, run_underlying T.und, MapKept.run_getObj_map hb, goInt, Result.andThen, hlen]
theorem run_deleteM (T : MapT P t kt et z) (hb : w.heap[b]? = some (.map es clock)) (h : MapEs es clock l) :
    ∃ es', (Builtin.delete_ #[t, kt] ty #[.map (some b), .int .i64 k]).run P w = .ok (.tuple #[]) { w with heap := w.heap.setIfInBounds b (.map es' clock) } ∧ MapEs es' clock (delK l k) := by
  have hlen : es.size = l.length := by have := congrArg List.length h.rd; simpa using this
  by_cases hk : k ∈ l.map Prod.fst
  · obtain ⟨j, v0, h1, h2, h3, h4⟩ := findNow_some es.toList l 0 h.rd hk
    have hj := (List.getElem?_eq_some_iff.1 h2).1
    have e0 : delK l k = l.eraseIdx j := by
      have h5 : ∀ (l : List (Int × Value)) j v0, (l.map Prod.fst).Nodup → l[j]? = some (k, v0) → delK l k = l.eraseIdx j := by
        intro l
        induction l with
        | nil => intro j v0 _ h; simp at h
        | cons p l ih =>
          intro j v0 hn hj
          rw [List.map_cons, List.nodup_cons] at hn
          cases j with
          | zero =>
            simp at hj; subst hj
            have : ∀ q ∈ l, q.1 ≠ k := fun q hq e => hn.1 (by show k ∈ _; rw [← e]; exact List.mem_map_of_mem (f := Prod.fst) hq)
            simp only [delK, List.eraseIdx_zero, List.tail_cons]
            rw [List.filter_cons_of_neg (by simp), List.filter_eq_self.2 (by simpa using this)]
          | succ j =>
            have hm : (k, v0) ∈ l := List.mem_of_getElem? (by simpa using hj)
            have hp : p.1 ≠ k := fun e => hn.1 (by rw [e]; exact List.mem_map_of_mem (f := Prod.fst) hm)
            simp only [delK, List.eraseIdx_cons_succ]
            rw [List.filter_cons_of_pos (by simpa using hp)]
            congr 1; exact ih j v0 hn.2 (by simpa using hj)
      exact h5 l j v0 h.nd h2
    refine ⟨es.eraseIdxIfInBounds j, ?_, ?_⟩
    · simp [Builtin.delete_, Instr.findKey, run_underlying T.und, run_underlying T.key, MapKept.run_getObj_map hb, T.check, h1, MapKept.run_setObj_map _ hb, Result.andThen]
    · have e1 : (es.eraseIdxIfInBounds j).toList = es.toList.eraseIdx j := by
        unfold Array.eraseIdxIfInBounds; rw [dif_pos (by omega)]; simp
      rw [e0]
      refine ⟨?_, ?_, fun e he => ?_, ?_⟩
      · rw [e1, ← eraseIdx_map', h.rd, eraseIdx_map']
      · rw [← eraseIdx_map']; exact h.nd.sublist (List.eraseIdx_sublist ..)
      · rw [e1] at he; exact h.lt e ((List.eraseIdx_sublist ..).subset he)
      · rw [e1, ← eraseIdx_map']; exact h.st.sublist (List.eraseIdx_sublist ..)
  · have h1 := findNow_none es.toList l 0 h.rd hk
    have e0 : delK l k = l := by
      unfold delK; apply List.filter_eq_self.2; intro p hp; simp; intro e; exact hk (by rw [← e]; exact List.mem_map_of_mem hp)
    refine ⟨es, ?_, by rw [e0]; exact h⟩
    simp [Builtin.delete_, Instr.findKey, run_underlying T.und, run_underlying T.key, MapKept.run_getObj_map hb, T.check, h1, MapKept.run_setObj_map _ hb, Result.andThen]
end
end Go.Sl
