import Derived.Test.YtlmpgefhnmfhpaaGreatSlI
namespace Go.Sl
open Go
section
variable {r : Option Nat} {P : Program} {ops : Array Oper} {Q : Exit → Act → World → Prop} {a : Act} {w : World}
  {n : Nat} {ds : List Deferred} {l : List (Nat × Value)} {d : Nat} {op : Op} {ty t t' el : TypeId} {pos : String} {af : Array Edge} {gd : Option (Nat × Bool)} {x y z : Operand}
  {next : Act → World → Prop} {M : Hp} {H : List Qm} {v : Value} {sz by_ : Nat} {zv : Value} {κ κ' : IntKind} {i j : Int}
theorem UI {α : Type} {R : Hp → List Value → α → Prop} {parts : Array (Nat × Operand)} {vs : List Value} {xs : List α} {len : Nat} (hRm : UM R) (E : Env a n ds l) (S : St w M H) (hd : Nat.blt d n = true) (T : Gj P t el 1 by_ zv) (hlen : Nat.ble len 1000 = true)
    (h1 : parts.toList.map (·.1) = List.range' 0 len) (hp : VS l (parts.toList.map (·.2)) = some vs) (hc : ∀ u ∈ vs, u.oneCell' = true)
    (hxl : xs.length = len) (hR : ∀ (i : Nat) x u, xs[i]? = some x → vs[i]? = some u → R M [u] x)
    (kk : ∀ a v w' M', Hp.le M M' → JN 1 R M' v xs → St w' M' H → Env a n ds ((d, v) :: l) → next a w') : (⟨some d, .buildSlice t len parts, ty, pos, af, gd⟩ : Oper).wpIn (Fw r) 0 P a w next Q := by
  refine qU E S hd T hlen h1 hp hc fun a w' v E S => ?_
  subst hxl
  have hln : xs.length ≤ 1000 := by simpa using hlen
  obtain ⟨hl, -⟩ := S.ownCases
  obtain ⟨M', hM, hr, S⟩ := S.freezeC (R := R) (by omega) fun i x hx M' hM => by
    have hi := (List.getElem?_eq_some_iff.1 hx).1
    have hv : vs[i]? = some vs[i] := List.getElem?_eq_getElem (by omega)
    have e : (vs.drop (i * 1)).take 1 = [vs[i]] := by
      rw [Nat.mul_one, List.take_one, List.head?_drop, hv]; rfl
    rw [e]; exact hRm _ _ _ _ hM (hR i x _ hx hv)
  exact kk a v w' M' hM hr S E
theorem ZR {α : Type} {R : Hp → List Value → α → Prop} {M : Hp} {v0 : Value} {l0 : α} {vs : List Value} {ls : List α} (h0 : R M [v0] l0) (h : ∀ (i : Nat) x u, ls[i]? = some x → vs[i]? = some u → R M [u] x) :
    ∀ (i : Nat) x u, (l0 :: ls)[i]? = some x → (v0 :: vs)[i]? = some u → R M [u] x := by
  intro i x u hx hu; match i with
  | 0 => cases hx; cases hu; exact h0
  | i + 1 => exact h i x u (by simpa using hx) (by simpa using hu)
theorem jP {α : Type} {R : Hp → List Value → α → Prop} {M : Hp} : ∀ (i : Nat) x u, ([] : List α)[i]? = some x → ([] : List Value)[i]? = some u → R M [u] x := by
  intro i x u hx; simp at hx
theorem Zh.row {M : Hp} {v : Value} {l : List Int} (h : Zh M v l) : vv 1 Wn M [v] l := ⟨_, rfl, h⟩
theorem Zh.one {M : Hp} {v : Value} {l : List Int} (h : Zh M v l) : v.oneCell' = true := by obtain ⟨_, _, rfl, _⟩ := h; rfl
theorem tmod_nn {p q : Int} (h1 : 0 ≤ p) (h2 : 0 < q) : Int.tmod p q = p % q ∧ 0 ≤ p % q ∧ p % q < q := ⟨Int.tmod_eq_emod_of_nonneg h1, Int.emod_nonneg _ (by omega), Int.emod_lt_of_pos _ h2⟩
end
theorem St.made0 {w : World} {M : Hp} {H : List Qm} {e : TypeId} {v : Value} (s : St w M (Jk e 1 v 0 [] :: H)) : St w M (Zi e v [] :: H) := s
theorem St.re1 {w : World} {M : Hp} {H : List Qm} {e : TypeId} {v : Value} {l l' : List Int} (s : St w M (Zi e v l :: H)) (h : l = l') : St w M (Zi e v l' :: H) := h ▸ s
theorem Env.val {a : Act} {n : Nat} {ds : List Deferred} {l : List (Nat × Value)} (E : Env a n ds l) {t : Nat} {b c : Bool} (h : look l t = some (.bool b)) (e : b = c) : Env a n ds ((t, .bool c) :: l) := by
  subst e
  refine ⟨E.size, E.dfr, fun u v hu => ?_⟩
  rw [UX] at hu
  split at hu
  · subst_vars; cases hu; exact E.get _ _ h
  · exact E.get u v hu
theorem UF {l : List (Nat × Value)} {t : Nat} {κ : IntKind} {i j : Nat} (h : look l t = some (.int κ (i : Int))) (e : i = j) : look l t = some (.int κ (j : Int)) := e ▸ h
theorem QO {p : Prop} (b : Bool) (h1 : b = true → p) (h2 : b = false → p) : p := by cases b; exact h2 rfl; exact h1 rfl
end Go.Sl
