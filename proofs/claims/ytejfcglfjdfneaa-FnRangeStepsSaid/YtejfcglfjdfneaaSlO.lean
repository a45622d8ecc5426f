import Derived.Test.YtejfcglfjdfneaaSlN
/-! A struct stored into an owned cell. -/
set_option linter.unusedVariables false
namespace Go.Sl
open Go
theorem run_storeCells {P : Program} {b : Nat} {e : TypeId} : ∀ (vs : List Value) (i : Nat) (cur : Array Value) (w : World), w.heap[b]? = some (.cells cur e (0, 0)) → i + vs.length ≤ cur.size → (∀ u ∈ vs, u.oneCell' = true) →
    ∃ w', (storeCells ⟨b, 0, none⟩ vs i).run P w = .ok () w' ∧ w'.heap[b]? = some (.cells (cur.toList.take i ++ vs ++ cur.toList.drop (i + vs.length)).toArray e (0, 0)) ∧ (∀ c, c ≠ b → w'.heap[c]? = w.heap[c]?) ∧ envS w' = envS w
  | [], i, cur, w, h, _, _ => ⟨w, by simp [storeCells], by simpa using h, fun _ _ => rfl, rfl⟩
  | v :: vs, i, cur, w, h, hl, h1 => by
    simp only [List.length_cons] at hl
    have hi : i < cur.size := by omega
    have hc : w.cell? ⟨b, i, none⟩ = some cur[i] := by simp [World.cell?, h, hi]
    have hf : w.frozen? ⟨b, i, none⟩ = false := by simp [World.frozen?, h]
    have hb : (w.setCell ⟨b, i, none⟩ v).heap[b]? = some (.cells (cur.setIfInBounds i v) e (0, 0)) := by
      simp only [World.setCell]; rw [Array.getElem?_modify, if_pos rfl, h]; rfl
    obtain ⟨w', r1, r2, r3, r4⟩ := run_storeCells (P := P) vs (i + 1) (cur.setIfInBounds i v) (w.setCell ⟨b, i, none⟩ v) hb (by simp; omega) (fun u hu => h1 u (List.mem_cons_of_mem _ hu))
    refine ⟨w', ?_, ?_, fun c hcb => ?_, r4⟩
    · simp [storeCells, Addr.add_lit, run_store P _ _ _ _ (h1 v (List.mem_cons_self ..)), hc, hf, r1]
    · rw [r2]
      congr 3
      simp only [Array.toList_setIfInBounds]
      rw [List.take_succ_eq_append_getElem (by simp; omega)]
      rw [List.take_set_of_le (Nat.le_refl _), List.drop_set_of_lt (by omega)]
      simp [List.append_assoc, Nat.add_comm, Nat.add_left_comm]
    · rw [r3 c hcb]; simp only [World.setCell]; rw [Array.getElem?_modify, if_neg (Ne.symm hcb)]
section
variable {r : Option Nat} {P : Program} {ops : Array Oper} {Q : Exit → Act → World → Prop} {a : Act} {w : World}
  {n : Nat} {ds : List Deferred} {l : List (Nat × Value)} {d : Nat} {op : Op} {ty t t' el : TypeId} {pos : String} {af : Array Edge} {gd : Option (Nat × Bool)} {x y z : Operand}
  {next : Act → World → Prop} {M : Hp} {H : List HProp}
theorem X_storeG {b : Nat} {cs : Array Value} {us : List Value} {e : TypeId} (E : Env a n ds l) (S : St w M (blk b (.cells cs e) :: H)) (hx : opv l x = some (.pointer (some ⟨b, 0, none⟩))) (hy : opv l y = some (.agg us.toArray))
    (hs : (sizeOf t).run P w = .ok us.length w) (hl : cs.size = us.length) (h1 : ∀ u ∈ us, u.oneCell' = true)
    (k : ∀ a w', Env a n ds l → St w' M (blk b (.cells us.toArray e) :: H) → next a w') : (⟨none, .store t x y, ty, pos, af, gd⟩ : Oper).wpIn (Fw r) 0 P a w next Q := by
  obtain ⟨w', r1, r2, r3, r4⟩ := run_storeCells (P := P) us 0 cs w S.get (by omega) h1
  refine X_skip (w' := w') E rfl ?_ fun a E => k a _ E ?_
  · simp [execOp, E.eval hx, E.eval hy, Instr.storeAt, Instr.sureAddr, storeVar, hs, Value.cells, r1]
  · refine S.set (o' := .cells us.toArray e) ?_ (fun c hc x hx => by rw [r3 c hc]; exact hx) r4
    rw [r2]; simp; omega
end
end Go.Sl
