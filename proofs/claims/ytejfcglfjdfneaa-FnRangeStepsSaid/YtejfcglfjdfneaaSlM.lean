import Derived.Test.YtejfcglfjdfneaaSlL
/-! Owned slices of anything that is read by a relation. -/
set_option linter.unusedVariables false
namespace Go.Sl
open Go
section
variable {α : Type} {R : Hp → List Value → α → Prop} {sz : Nat} {M M' : Hp} {l l' : List α} {xs : List Value}
/-- the cells xs stand for the items of l, sz cells each -/
def RowsR (R : Hp → List Value → α → Prop) (sz : Nat) (M : Hp) (l : List α) (xs : List Value) : Prop :=
  xs.length = l.length * sz ∧ (∀ u ∈ xs, u.oneCell' = true) ∧ ∀ (i : Nat) x, l[i]? = some x → R M ((xs.drop (i * sz)).take sz) x
def ROne (R : Hp → List Value → α → Prop) : Prop := ∀ M cs x, R M cs x → ∀ u ∈ cs, u.oneCell' = true
theorem RowsR.le (h : RowsR R sz M l xs) (hR : RMono R) (hM : Hp.le M M') : RowsR R sz M' l xs := ⟨h.1, h.2.1, fun i x hx => hR _ _ _ _ hM (h.2.2 i x hx)⟩
theorem RowsR.eq (h : RowsR R sz M l xs) (e : l = l') : RowsR R sz M l' xs := e ▸ h
theorem RowsR.nil : RowsR R sz M [] [] := ⟨by simp, fun u h => by simp at h, fun i x h => by simp at h⟩
theorem RowsR.append {ys : List Value} (h : RowsR R sz M l xs) (h' : RowsR R sz M l' ys) : RowsR R sz M (l ++ l') (xs ++ ys) := by
  obtain ⟨a, b, c⟩ := h; obtain ⟨a', b', c'⟩ := h'
  refine ⟨by rw [List.length_append, List.length_append, a, a', Nat.add_mul], fun u hu => ?_, fun i x hx => ?_⟩
  · rcases List.mem_append.1 hu with h | h
    · exact b u h
    · exact b' u h
  · by_cases hi : i < l.length
    · rw [List.getElem?_append_left hi] at hx
      have h1 : i * sz + sz ≤ xs.length := by rw [a]; have := Nat.mul_le_mul_right sz hi; rwa [Nat.succ_mul] at this
      rw [List.drop_append_of_le_length (by omega), List.take_append_of_le_length (by simp; omega)]
      exact c i x hx
    · rw [List.getElem?_append_right (by omega)] at hx
      have e : i * sz = xs.length + (i - l.length) * sz := by rw [a, ← Nat.add_mul]; congr 1; omega
      rw [e, List.drop_append, List.drop_eq_nil_of_le (by omega), List.nil_append, Nat.add_sub_cancel_left]
      exact c' _ x hx
theorem rows_of_src {news : List Value} (hone : ROne R) (hsz : 0 < sz) (hl : news.length = l.length * sz) (h : ∀ (i : Nat) x, l[i]? = some x → R M ((news.drop (i * sz)).take sz) x) : RowsR R sz M l news := by
  refine ⟨hl, fun u hu => ?_, h⟩
  obtain ⟨k, hk⟩ := List.getElem?_of_mem hu
  have hkl : k < l.length * sz := by rw [← hl]; exact (List.getElem?_eq_some_iff.1 hk).1
  have hi : k / sz < l.length := Nat.div_lt_of_lt_mul (by rwa [Nat.mul_comm] at hkl)
  have hj : k % sz < sz := Nat.mod_lt _ hsz
  have hkk : k / sz * sz + k % sz = k := by rw [Nat.mul_comm]; exact Nat.div_add_mod k sz
  refine hone _ _ _ (h (k / sz) _ (List.getElem?_eq_getElem hi)) u (List.mem_of_getElem? (i := k % sz) ?_)
  rw [List.getElem?_take, if_pos hj, List.getElem?_drop, hkk]; exact hk
variable {w : World} {H : List HProp} {e : TypeId} {v : Value}
theorem St.freezeR (s : St w M (OwnC e sz v l.length xs :: H)) (h : RowsR R sz M l xs) (hR : RMono R) (hlen : l.length ≤ 2 ^ 44) : ∃ M', Hp.le M M' ∧ RdS sz R M' v l ∧ St w M' H :=
  s.freezeC hlen fun i x hx M' hM => hR _ _ _ _ hM (h.2.2 i x hx)
theorem St.reR (s : St w M (OwnC e sz v l.length xs :: H)) (h : l = l') : St w M (OwnC e sz v l'.length xs :: H) := h ▸ s
theorem St.oneC {m : Nat} (s : St w M (OwnC e sz v m xs :: H)) : v.oneCell' = true := by
  obtain ⟨A, c, e, _⟩ := St.lenC s; rw [e]; rfl
end
section
variable {r : Option Nat} {P : Program} {ops : Array Oper} {Q : Exit → Act → World → Prop} {a : Act} {w : World}
  {n : Nat} {ds : List Deferred} {l : List (Nat × Value)} {d : Nat} {op : Op} {ty t t' el : TypeId} {pos : String} {af : Array Edge} {gd : Option (Nat × Bool)} {x y z : Operand}
  {next : Act → World → Prop} {M : Hp} {H : List HProp} {v : Value} {sz by_ : Nat} {zv : Value}
theorem X_appendR {α : Type} {R : Hp → List Value → α → Prop} {zs ys : List α} {xs : List Value} {sv : Value} (E : Env a n ds l) (S : St w M (OwnC el sz v zs.length xs :: H)) (hrow : RowsR R sz M zs xs) (hd : Nat.blt d n = true) (hx : opv l x = some v) (hy : opv l y = some sv) (T : SlT P t el sz by_ zv)
    (src : RdS sz R M sv ys) (hone : ROne R) (hb : (zs.length + ys.length) * by_ ≤ 140737488355328) (h63 : zs.length + ys.length ≤ 2 ^ 44)
    (kk : ∀ a w' v' xs', Env a n ds ((d, v') :: l) → RowsR R sz M (zs ++ ys) xs' → St w' M (OwnC el sz v' (zs ++ ys).length xs' :: H) → next a w') : (⟨some d, .call ⟨.builtin .append, #[x, y], #[t, t]⟩, ty, pos, af, gd⟩ : Oper).wpIn (Fw r) 0 P a w next Q := by
  obtain ⟨news, h1, h2, h3⟩ := Src.rd S.imm T.pos src
  have hr := rows_of_src hone T.pos h2 h3
  refine X_append E S hd hx hy T h1 h2 hr.2.1 hb h63 fun a w' v' E S => kk a w' v' _ E (hrow.append hr) ?_
  rw [List.length_append]; exact S
end
/-! ### Kinds of elements -/
theorem one_RSl {α : Type} {sz : Nat} {R : Hp → List Value → α → Prop} : ROne (RSl sz R) := by
  rintro M cs x ⟨v, rfl, h⟩ u hu; rw [List.mem_singleton] at hu; subst hu; exact RdS.one' h
/-- a sequence in a cell -/
def RSq {α : Type} (P : Program) (RV : Hp → List Value → α → Prop) : Hp → List Value → List α → Prop := fun M cs l => ∃ v, cs = [v] ∧ SeqV P v M RV l
theorem RSq_mono {α : Type} {P : Program} {RV : Hp → List Value → α → Prop} : RMono (RSq P RV) := fun _ _ _ _ hM ⟨v, e, h⟩ => ⟨v, e, h.le hM⟩
theorem one_RSq {α : Type} {P : Program} {RV : Hp → List Value → α → Prop} : ROne (RSq P RV) := by
  rintro M cs x ⟨v, rfl, h⟩ u hu; rw [List.mem_singleton] at hu; subst hu; exact h.1
theorem RdQ.at {α : Type} {P : Program} {RV : Hp → List Value → α → Prop} {M : Hp} {v : Value} {l : List (List α)} {k : Nat} {e : List α} (h : RdS 1 (RSq P RV) M v l) (he : l[k]? = some e) : ∃ p u, IdxPtr v k 1 p ∧ cellM M p = some u ∧ SeqV P u M RV e := by
  obtain ⟨p, cs, h1, h2, ⟨u, rfl, h3⟩, h4⟩ := h.at he
  exact ⟨p, u, h1, by have := h4 0 u rfl; rwa [add_zero] at this, h3⟩
theorem RdS.at1 {α : Type} {R : Hp → List Value → α → Prop} {M : Hp} {v : Value} {l : List α} {k : Nat} {e : α} (h : RdS 1 R M v l) (he : l[k]? = some e) : ∃ p u, IdxPtr v k 1 p ∧ cellM M p = some u ∧ R M [u] e := by
  obtain ⟨p, cs, h1, h2, h3, h4⟩ := h.at he
  match cs, h2 with
  | [u], _ => exact ⟨p, u, h1, by have := h4 0 u rfl; rwa [add_zero] at this, h3⟩
end Go.Sl
