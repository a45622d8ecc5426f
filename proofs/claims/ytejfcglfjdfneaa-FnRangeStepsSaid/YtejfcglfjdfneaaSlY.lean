import Derived.Test.YtejfcglfjdfneaaSlX
/-! Owned slices that are appended, cut and copied, and kept. -/
set_option linter.unusedVariables false
namespace Go.Sl
open Go Go.RowKit
section
variable {r : Option Nat} {P : Program} {Q : Exit → Act → World → Prop} {a : Act} {w : World}
  {n : Nat} {ds : List Deferred} {l : List (Nat × Value)} {d : Nat} {ty t t' el : TypeId} {pos : String} {af : Array Edge} {gd : Option (Nat × Bool)} {x y : Operand}
  {next : Act → World → Prop} {M : Hp} {H : List HProp} {zv v sv : Value} {xs ys : List Int}
theorem St.front6 {w : World} {M : Hp} {c1 c2 c3 c4 c5 c6 c7 : HProp} {H : List HProp} (s : St w M (c1 :: c2 :: c3 :: c4 :: c5 :: c6 :: c7 :: H)) : St w M (c7 :: c1 :: c2 :: c3 :: c4 :: c5 :: c6 :: H) :=
  s.perm (List.perm_middle (a := c7) (l₁ := [c1, c2, c3, c4, c5, c6]) (l₂ := H))
theorem St.front7 {w : World} {M : Hp} {c1 c2 c3 c4 c5 c6 c7 c8 : HProp} {H : List HProp} (s : St w M (c1 :: c2 :: c3 :: c4 :: c5 :: c6 :: c7 :: c8 :: H)) : St w M (c8 :: c1 :: c2 :: c3 :: c4 :: c5 :: c6 :: c7 :: H) :=
  s.perm (List.perm_middle (a := c8) (l₁ := [c1, c2, c3, c4, c5, c6, c7]) (l₂ := H))
theorem St.front8 {w : World} {M : Hp} {c1 c2 c3 c4 c5 c6 c7 c8 c9 : HProp} {H : List HProp} (s : St w M (c1 :: c2 :: c3 :: c4 :: c5 :: c6 :: c7 :: c8 :: c9 :: H)) : St w M (c9 :: c1 :: c2 :: c3 :: c4 :: c5 :: c6 :: c7 :: c8 :: H) :=
  s.perm (List.perm_middle (a := c9) (l₁ := [c1, c2, c3, c4, c5, c6, c7, c8]) (l₂ := H))
theorem X_copyS {sv : Value} {ys : List Int} (E : Env a n ds l) (S : St w M (OwnI el v xs :: H)) (hd : Nat.blt d n = true) (hx : opv l x = some v) (hy : opv l y = some sv) (T : SlT P t el 1 8 zv) (hsrc : Src w sv ys.length (ys.map (Value.int .i64))) (hsv : ∃ A c, sv = .slice A ys.length c)
    (kk : ∀ a w', Env a n ds ((d, .int .i64 ((min ys.length xs.length : Nat) : Int)) :: l) → St w' M (OwnI el v (ys.take xs.length ++ xs.drop ys.length) :: H) → next a w') : (⟨some d, .call ⟨.builtin .copy, #[x, y], #[t, t']⟩, ty, pos, af, gd⟩ : Oper).wpIn (Fw r) 0 P a w next Q := by
  obtain ⟨hxl, hc⟩ := S.ownCases
  have hsz := T.sizeOf w
  obtain ⟨A, c, rfl⟩ := hsv
  have hf : (Builtin.firstCells 1 (min ys.length xs.length) (.slice A ys.length c)).run P w = .ok ((ys.take (min ys.length xs.length)).map (Value.int .i64)).toArray w := by
    rcases hsrc with ⟨b, c', e, hnews⟩ | ⟨c', e, hm⟩
    · cases e
      refine run_firstCells_some w 1 _ b _ _ _ (by simp) fun j u hj => hnews j u ?_
      rw [List.map_take, List.getElem?_take] at hj
      split at hj
      · exact hj
      · cases hj
    · cases e
      have : ys = [] := List.eq_nil_of_length_eq_zero hm
      subst this; simp [Builtin.firstCells]
  rcases hc with ⟨rfl, hm, s0⟩ | ⟨g, cap, cur, rfl, s0, hmc, hcm, hcs, htake⟩
  · have : xs = [] := List.eq_nil_of_length_eq_zero (by simpa using hm)
    subst this
    refine X_val E hd rfl (v := .int .i64 ((min ys.length 0 : Nat) : Int)) (w' := w) ?_ fun a E => kk a _ E (by simpa using S)
    simp only [execOp, resolve, invoke, builtin]
    simp only [List.length_nil] at hf
    simp [E.eval hx, E.eval hy, Builtin.copy_, run_underlying T.und, Builtin.lenOf, hsz, goInt]
    have hf' : (Builtin.firstCells 1 0 (.slice A ys.length c)).run P w = .ok #[] w := by simpa using hf
    simp [hf', Result.andThen]
  · obtain ⟨w', r1, r2, r3, r4⟩ := run_storeCells (P := P) ((ys.take (min ys.length xs.length)).map (Value.int .i64)) 0 cur w s0.get (by simp; omega) (oneCell_ints _)
    refine X_val E hd rfl (v := .int .i64 ((min ys.length xs.length : Nat) : Int)) (w' := w') ?_ fun a E => kk a _ E ?_
    · simp only [execOp, resolve, invoke, builtin]
      rw [List.map_take] at r1
      simp [E.eval hx, E.eval hy, Builtin.copy_, run_underlying T.und, Builtin.lenOf, hsz, goInt, hf, r1, Result.andThen]
    · have s1 := s0.set (o' := .cells (cur.toList.take 0 ++ (ys.take (min ys.length xs.length)).map (Value.int .i64) ++ cur.toList.drop (0 + ((ys.take (min ys.length xs.length)).map (Value.int .i64)).length)).toArray el) r2 (fun c hc x hx => by rw [r3 c hc]; exact hx) r4
      have hlen : (ys.take xs.length ++ xs.drop ys.length).length = xs.length := by simp; omega
      show St w' M (OwnC el 1 _ _ _ :: H)
      rw [hlen]
      refine s1.ownOf (by simp; omega) hmc hcm (by simp; omega) ?_
      rw [← copy_list, List.map_append]
      simp only [List.take_zero, List.nil_append, Nat.zero_add, List.length_map, List.length_take, Nat.mul_one] at htake ⊢
      rw [show min (min ys.length xs.length) ys.length = min ys.length xs.length by omega]
      rw [List.take_append, List.take_of_length_le (by simp; omega)]
      congr 1
      simp only [List.length_map, List.length_take]
      rw [show min (min ys.length xs.length) ys.length = min ys.length xs.length by omega, List.map_drop, ← htake, List.drop_take]
theorem X_appendO {e' : TypeId} {xs ys : List Int} {sv : Value} (E : Env a n ds l) (S : St w M (OwnI e' sv ys :: OwnI el v xs :: H)) (hd : Nat.blt d n = true) (hx : opv l x = some v) (hy : opv l y = some sv) (T : SlT P t el 1 8 zv)
    (hb : xs.length + ys.length ≤ 2 ^ 43)
    (kk : ∀ a w' v', Env a n ds ((d, v') :: l) → St w' M (OwnI el v' (xs ++ ys) :: OwnI e' sv ys :: H) → next a w') : (⟨some d, .call ⟨.builtin .append, #[x, y], #[t, t]⟩, ty, pos, af, gd⟩ : Oper).wpIn (Fw r) 0 P a w next Q :=
  X_append E S.swap hd hx hy T (Src.own S) (by simp) (oneCell_ints _) (by omega) (by omega) fun a w' v' E S => kk a w' v' E (by rw [← List.length_append, ← List.map_append] at S; exact S)
theorem X_copyO {xs : List Int} {sv : Value} {lo : Nat} (E : Env a n ds l) (S : St w M (OwnI el v xs :: H)) (hd : Nat.blt d n = true) (hx : opv l x = some v) (hy : opv l y = some sv) (T : SlT P t el 1 8 zv) (hs : SubV v lo xs.length 1 sv)
    (kk : ∀ a w', Env a n ds ((d, .int .i64 ((min (xs.drop lo).length xs.length : Nat) : Int)) :: l) → St w' M (OwnI el v (xs.drop lo ++ xs.drop (xs.length - lo)) :: H) → next a w') : (⟨some d, .call ⟨.builtin .copy, #[x, y], #[t, t']⟩, ty, pos, af, gd⟩ : Oper).wpIn (Fw r) 0 P a w next Q := by
  have ho := Src.own S
  obtain ⟨A, m, c, rfl, h1, h2, rfl⟩ := hs
  have hm : m = xs.length := by
    obtain ⟨A', c', e, _⟩ := St.lenC S
    cases e; rfl
  refine X_copyS (ys := xs.drop lo) E S hd hx hy T ?_ ⟨_, _, by rw [List.length_drop]⟩ fun a w' E S => kk a w' E (by
    rw [List.take_of_length_le (by simp), List.length_drop] at S; exact S)
  rcases ho with ⟨b, c', e, hnews⟩ | ⟨c', e, hm0⟩
  · cases e
    by_cases hc : c = lo
    · subst hc
      have h0 : (xs.drop c).length = 0 := by rw [List.length_drop]; omega
      refine .inl ⟨b, 0, ?_, fun j u hj => ?_⟩
      · rw [if_pos rfl, List.length_drop]; simp
      · have := (List.getElem?_eq_some_iff.1 hj).1
        rw [List.length_map, h0] at this; omega
    · refine .inl ⟨b.add (lo * 1), c - lo, ?_, fun j u hj => ?_⟩
      · rw [if_neg hc, List.length_drop]; rfl
      · rw [add_add]
        refine hnews _ _ ?_
        rw [List.map_drop, List.getElem?_drop] at hj
        rw [Nat.mul_one]; exact hj
  · cases e
    refine .inr ⟨c - lo, ?_, ?_⟩
    · rw [List.length_drop]; split <;> rfl
    · rw [List.length_drop]; omega
theorem St.subO {e : TypeId} {xs : List Int} {lo : Nat} (s : St w M (OwnI e v xs :: H)) (h : lo ≤ xs.length) : ∃ v', SubV v lo xs.length 1 v' := by
  obtain ⟨A, c, e, hc⟩ := St.lenC s
  exact ⟨_, A, _, c, e, h, hc, rfl⟩
end
/-! ### Bools in rows -/
def RB1 : Hp → List Value → Bool → Prop := fun _ cs b => cs = [.bool b]
theorem RB1_mono : RMono RB1 := fun _ _ _ _ _ h => h
theorem one_RB1 : ROne RB1 := by rintro M cs x rfl u hu; simp at hu; subst hu; rfl
theorem RdB.at {M : Hp} {v : Value} {l : List Bool} {k : Nat} {e : Bool} (h : RdS 1 RB1 M v l) (he : l[k]? = some e) : ∃ p, IdxPtr v k 1 p ∧ cellM M p = some (.bool e) := by
  obtain ⟨p, u, h1, h2, h3⟩ := h.at1 he
  unfold RB1 at h3; simp at h3; subst h3; exact ⟨p, h1, h2⟩
theorem RowsRB.set {M : Hp} {l : List Bool} {xs : List Value} {k : Nat} {b : Bool} (h : RowsR RB1 1 M l xs) : RowsR RB1 1 M (l.set k b) (xs.set k (.bool b)) := by
  obtain ⟨h1, h2, h3⟩ := h
  refine ⟨by simpa using h1, fun u hu => ?_, fun j x hx => ?_⟩
  · rcases List.mem_or_eq_of_mem_set hu with hu | rfl
    · exact h2 u hu
    · rfl
  · have hj := (List.getElem?_eq_some_iff.1 hx).1
    rw [List.length_set] at hj
    have hjx : j < xs.length := by omega
    unfold RB1
    rw [Nat.mul_one, List.take_one, List.head?_drop]
    by_cases e : k = j
    · subst e
      rw [List.getElem?_set_self hj] at hx; cases hx
      rw [List.getElem?_set_self hjx]; rfl
    · rw [List.getElem?_set_ne e] at hx ⊢
      have h4 := h3 j x hx
      unfold RB1 at h4
      rw [Nat.mul_one, List.take_one, List.head?_drop] at h4; exact h4
end Go.Sl
