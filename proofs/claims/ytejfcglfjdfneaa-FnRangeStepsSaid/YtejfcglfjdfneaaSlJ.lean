import Derived.Test.YtejfcglfjdfneaaSlI
/-! Slices of values, built and frozen at once. -/
namespace Go.Sl
open Go
section
variable {r : Option Nat} {P : Program} {ops : Array Oper} {Q : Exit → Act → World → Prop} {a : Act} {w : World}
  {n : Nat} {ds : List Deferred} {l : List (Nat × Value)} {d : Nat} {op : Op} {ty t t' el : TypeId} {pos : String} {af : Array Edge} {gd : Option (Nat × Bool)} {x y z : Operand}
  {next : Act → World → Prop} {M : Hp} {H : List HProp} {v : Value} {sz by_ : Nat} {zv : Value} {κ κ' : IntKind} {i j : Int}
/-- values that are read, written down as a slice, frozen -/
theorem X_buildM {α : Type} {R : Hp → List Value → α → Prop} {parts : Array (Nat × Operand)} {vs : List Value} {xs : List α} {len : Nat} (hRm : RMono R) (E : Env a n ds l) (S : St w M H) (hd : Nat.blt d n = true) (T : SlT P t el 1 by_ zv) (hlen : Nat.ble len 1000 = true)
    (h1 : parts.toList.map (·.1) = List.range' 0 len) (hp : opvs l (parts.toList.map (·.2)) = some vs) (hc : ∀ u ∈ vs, u.oneCell' = true)
    (hxl : xs.length = len) (hR : ∀ (i : Nat) x u, xs[i]? = some x → vs[i]? = some u → R M [u] x)
    (kk : ∀ a v w' M', Hp.le M M' → RdS 1 R M' v xs → St w' M' H → Env a n ds ((d, v) :: l) → next a w') : (⟨some d, .buildSlice t len parts, ty, pos, af, gd⟩ : Oper).wpIn (Fw r) 0 P a w next Q := by
  refine X_build1 E S hd T hlen h1 hp hc fun a w' v E S => ?_
  subst hxl
  have hln : xs.length ≤ 1000 := by simpa using hlen
  obtain ⟨hl, -⟩ := S.ownCases
  obtain ⟨M', hM, hr, S⟩ := S.freezeC (R := R) (by omega) fun i x hx M' hM => by
    have hi := (List.getElem?_eq_some_iff.1 hx).1
    have hv : vs[i]? = some vs[i] := List.getElem?_eq_getElem (by omega)
    have e : (vs.drop (i * 1)).take 1 = [vs[i]] := by
      rw [Nat.mul_one, List.take_one, List.head?_drop, hv]; rfl
    rw [e]; exact hRm _ _ _ _ hM (hR i x _ hx hv)
  exact kk a v w' M' hM hr S E
theorem rows1 {M : Hp} {v0 : Value} {l0 : List Int} (h0 : RdI M v0 l0) : ∀ (i : Nat) x u, [l0][i]? = some x → [v0][i]? = some u → RSl 1 RInt M [u] x := by
  intro i x u hx hu; match i with
  | 0 => cases hx; cases hu; exact ⟨_, rfl, h0⟩
  | i + 1 => simp at hx
theorem rowsC {α : Type} {R : Hp → List Value → α → Prop} {M : Hp} {v0 : Value} {l0 : α} {vs : List Value} {ls : List α} (h0 : R M [v0] l0) (h : ∀ (i : Nat) x u, ls[i]? = some x → vs[i]? = some u → R M [u] x) :
    ∀ (i : Nat) x u, (l0 :: ls)[i]? = some x → (v0 :: vs)[i]? = some u → R M [u] x := by
  intro i x u hx hu; match i with
  | 0 => cases hx; cases hu; exact h0
  | i + 1 => exact h i x u (by simpa using hx) (by simpa using hu)
theorem rowsN {α : Type} {R : Hp → List Value → α → Prop} {M : Hp} : ∀ (i : Nat) x u, ([] : List α)[i]? = some x → ([] : List Value)[i]? = some u → R M [u] x := by
  intro i x u hx; simp at hx
theorem RdI.row {M : Hp} {v : Value} {l : List Int} (h : RdI M v l) : RSl 1 RInt M [v] l := ⟨_, rfl, h⟩
theorem RdI.one {M : Hp} {v : Value} {l : List Int} (h : RdI M v l) : v.oneCell' = true := by obtain ⟨_, _, rfl, _⟩ := h; rfl
theorem R_negx (E : Env a n ds l) (hx : opv l x = some (.int .i64 i)) {m : Int} (hm : -i = m) (hb : -9223372036854775808 ≤ m ∧ m ≤ 9223372036854775807) :
    (execOp a.eval ⟨some d, .unOp .neg t x, ty, pos, af, gd⟩).run P w = .ok (.value (.int .i64 m)) w := by rw [R_neg E hx, show (0 : Int) - i = m by omega, wrap_in hb]
theorem e_negx (E : Env a n ds l) (hx : opv l x = some (.int .i64 i)) {m : Int} {r0 : Option Nat} {os0 : Array Oper} {Q0 : Exit → Act → World → Prop} {rest0 : List Oper} (k0 : ∀ a, Env a n ds ((d, (.int .i64 m)) :: l) → WL r0 P os0 Q0 rest0 a w) (hm : -i = m := by omega) (hb : -9223372036854775808 ≤ m ∧ m ≤ 9223372036854775807 := by omega) (hd0 : Nat.blt d n = true := by rfl) : WL r0 P os0 Q0 (⟨some d, .unOp .neg t x, ty, pos, af, none⟩ :: rest0) a w := O_val E hd0 rfl (R_negx E hx hm hb) k0
theorem R_quon {p q : Nat} (E : Env a n ds l) (hx : opv l x = some (.int .i64 (p : Int))) (hy : opv l y = some (.int .i64 (q : Int))) (hq : q ≠ 0) (hb : p ≤ 9223372036854775807) :
    (execOp a.eval ⟨some d, .binOp .quo t x y t', ty, pos, af, gd⟩).run P w = .ok (.value (.int .i64 ((p / q : Nat) : Int))) w := by
  have h1 : p / q ≤ p := Nat.div_le_self _ _
  rw [R_quo E hx hy (by omega), ← Int.ofNat_tdiv, wrap_in (by generalize p / q = m at *; omega)]
theorem e_quon {p q : Nat} (E : Env a n ds l) (hx : opv l x = some (.int .i64 (p : Int))) (hy : opv l y = some (.int .i64 (q : Int))) (hq : q ≠ 0) (hb : p ≤ 9223372036854775807) {r0 : Option Nat} {os0 : Array Oper} {Q0 : Exit → Act → World → Prop} {rest0 : List Oper} (k0 : ∀ a, Env a n ds ((d, (.int .i64 ((p / q : Nat) : Int))) :: l) → WL r0 P os0 Q0 rest0 a w) (hd0 : Nat.blt d n = true := by rfl) : WL r0 P os0 Q0 (⟨some d, .binOp .quo t x y t', ty, pos, af, none⟩ :: rest0) a w := O_val E hd0 rfl (R_quon E hx hy hq hb) k0
theorem R_remn {p q : Nat} (E : Env a n ds l) (hx : opv l x = some (.int .i64 (p : Int))) (hy : opv l y = some (.int .i64 (q : Int))) (hq : q ≠ 0) :
    (execOp a.eval ⟨some d, .binOp .rem t x y t', ty, pos, af, gd⟩).run P w = .ok (.value (.int .i64 ((p % q : Nat) : Int))) w := by
  rw [R_rem E hx hy (by omega), ← Int.ofNat_tmod]
theorem e_remn {p q : Nat} (E : Env a n ds l) (hx : opv l x = some (.int .i64 (p : Int))) (hy : opv l y = some (.int .i64 (q : Int))) (hq : q ≠ 0) {r0 : Option Nat} {os0 : Array Oper} {Q0 : Exit → Act → World → Prop} {rest0 : List Oper} (k0 : ∀ a, Env a n ds ((d, (.int .i64 ((p % q : Nat) : Int))) :: l) → WL r0 P os0 Q0 rest0 a w) (hd0 : Nat.blt d n = true := by rfl) : WL r0 P os0 Q0 (⟨some d, .binOp .rem t x y t', ty, pos, af, none⟩ :: rest0) a w := O_val E hd0 rfl (R_remn E hx hy hq) k0
theorem u64_wrap (x : Int) : IntKind.u64.wrap x = x % 18446744073709551616 := by simp [IntKind.wrap, IntKind.signed, IntKind.bits]
theorem R_convm {κ κ' : IntKind} {m : Int} (E : Env a n ds l) (hx : opv l x = some (.int κ i)) (hs : P.underlying t = some (.int κ)) (ht : P.underlying t' = some (.int κ')) (hm : κ'.wrap i = m) :
    (execOp a.eval ⟨some d, .convert t t' x, ty, pos, af, gd⟩).run P w = .ok (.value (.int κ' m)) w := by rw [R_conv E hx hs ht, hm]
theorem e_convm {κ κ' : IntKind} {m : Int} (E : Env a n ds l) (hx : opv l x = some (.int κ i)) (hs : P.underlying t = some (.int κ)) (ht : P.underlying t' = some (.int κ')) (hm : κ'.wrap i = m) {r0 : Option Nat} {os0 : Array Oper} {Q0 : Exit → Act → World → Prop} {rest0 : List Oper} (k0 : ∀ a, Env a n ds ((d, (.int κ' m)) :: l) → WL r0 P os0 Q0 rest0 a w) (hd0 : Nat.blt d n = true := by rfl) : WL r0 P os0 Q0 (⟨some d, .convert t t' x, ty, pos, af, none⟩ :: rest0) a w := O_val E hd0 rfl (R_convm E hx hs ht hm) k0
theorem R_negm {κ : IntKind} {m : Int} (E : Env a n ds l) (hx : opv l x = some (.int κ i)) (hm : κ.wrap (0 - i) = m) :
    (execOp a.eval ⟨some d, .unOp .neg t x, ty, pos, af, gd⟩).run P w = .ok (.value (.int κ m)) w := by rw [R_neg E hx, hm]
theorem e_negm {κ : IntKind} {m : Int} (E : Env a n ds l) (hx : opv l x = some (.int κ i)) (hm : κ.wrap (0 - i) = m) {r0 : Option Nat} {os0 : Array Oper} {Q0 : Exit → Act → World → Prop} {rest0 : List Oper} (k0 : ∀ a, Env a n ds ((d, (.int κ m)) :: l) → WL r0 P os0 Q0 rest0 a w) (hd0 : Nat.blt d n = true := by rfl) : WL r0 P os0 Q0 (⟨some d, .unOp .neg t x, ty, pos, af, none⟩ :: rest0) a w := O_val E hd0 rfl (R_negm E hx hm) k0
theorem R_subm {κ : IntKind} {m : Int} (E : Env a n ds l) (hx : opv l x = some (.int κ i)) (hy : opv l y = some (.int κ j)) (hm : κ.wrap (i - j) = m) :
    (execOp a.eval ⟨some d, .binOp .sub t x y t', ty, pos, af, gd⟩).run P w = .ok (.value (.int κ m)) w := by rw [R_sub E hx hy, hm]
theorem e_subm {κ : IntKind} {m : Int} (E : Env a n ds l) (hx : opv l x = some (.int κ i)) (hy : opv l y = some (.int κ j)) (hm : κ.wrap (i - j) = m) {r0 : Option Nat} {os0 : Array Oper} {Q0 : Exit → Act → World → Prop} {rest0 : List Oper} (k0 : ∀ a, Env a n ds ((d, (.int κ m)) :: l) → WL r0 P os0 Q0 rest0 a w) (hd0 : Nat.blt d n = true := by rfl) : WL r0 P os0 Q0 (⟨some d, .binOp .sub t x y t', ty, pos, af, none⟩ :: rest0) a w := O_val E hd0 rfl (R_subm E hx hy hm) k0
theorem tmod_nn {p q : Int} (h1 : 0 ≤ p) (h2 : 0 < q) : Int.tmod p q = p % q ∧ 0 ≤ p % q ∧ p % q < q := ⟨Int.tmod_eq_emod_of_nonneg h1, Int.emod_nonneg _ (by omega), Int.emod_lt_of_pos _ h2⟩
theorem R_convx {κ : IntKind} (E : Env a n ds l) (hx : opv l x = some (.int κ i)) (hs : P.underlying t = some (.int κ)) (ht : P.underlying t' = some (.int .i64)) (hb : -9223372036854775808 ≤ i ∧ i ≤ 9223372036854775807) :
    (execOp a.eval ⟨some d, .convert t t' x, ty, pos, af, gd⟩).run P w = .ok (.value (.int .i64 i)) w := by rw [R_conv E hx hs ht, wrap_in hb]
theorem e_convx {κ : IntKind} (E : Env a n ds l) (hx : opv l x = some (.int κ i)) (hs : P.underlying t = some (.int κ)) (ht : P.underlying t' = some (.int .i64)) {r0 : Option Nat} {os0 : Array Oper} {Q0 : Exit → Act → World → Prop} {rest0 : List Oper} (k0 : ∀ a, Env a n ds ((d, (.int .i64 i)) :: l) → WL r0 P os0 Q0 rest0 a w) (hb : -9223372036854775808 ≤ i ∧ i ≤ 9223372036854775807 := by omega) (hd0 : Nat.blt d n = true := by rfl) : WL r0 P os0 Q0 (⟨some d, .convert t t' x, ty, pos, af, none⟩ :: rest0) a w := O_val E hd0 rfl (R_convx E hx hs ht hb) k0
end
theorem St.made0 {w : World} {M : Hp} {H : List HProp} {e : TypeId} {v : Value} (s : St w M (OwnC e 1 v 0 [] :: H)) : St w M (OwnI e v [] :: H) := s
theorem St.re1 {w : World} {M : Hp} {H : List HProp} {e : TypeId} {v : Value} {l l' : List Int} (s : St w M (OwnI e v l :: H)) (h : l = l') : St w M (OwnI e v l' :: H) := h ▸ s
theorem St.re2 {w : World} {M : Hp} {H : List HProp} {e e2 : TypeId} {v v2 : Value} {l l' l2 l2' : List Int} (s : St w M (OwnI e v l :: OwnI e2 v2 l2 :: H)) (h : l = l') (h2 : l2 = l2') : St w M (OwnI e v l' :: OwnI e2 v2 l2' :: H) := h ▸ h2 ▸ s
theorem St.re3 {w : World} {M : Hp} {H : List HProp} {e e2 e3 : TypeId} {v v2 v3 : Value} {l l' l2 l2' l3 l3' : List Int} (s : St w M (OwnI e v l :: OwnI e2 v2 l2 :: OwnI e3 v3 l3 :: H)) (h : l = l') (h2 : l2 = l2') (h3 : l3 = l3') : St w M (OwnI e v l' :: OwnI e2 v2 l2' :: OwnI e3 v3 l3' :: H) := h ▸ h2 ▸ h3 ▸ s
theorem Env.val {a : Act} {n : Nat} {ds : List Deferred} {l : List (Nat × Value)} (E : Env a n ds l) {t : Nat} {b c : Bool} (h : look l t = some (.bool b)) (e : b = c) : Env a n ds ((t, .bool c) :: l) := by
  subst e
  refine ⟨E.size, E.dfr, fun u v hu => ?_⟩
  rw [look_cons] at hu
  split at hu
  · subst_vars; cases hu; exact E.get _ _ h
  · exact E.get u v hu
theorem look_int {l : List (Nat × Value)} {t : Nat} {κ : IntKind} {i j : Int} (h : look l t = some (.int κ i)) (e : i = j) : look l t = some (.int κ j) := e ▸ h
theorem look_nat {l : List (Nat × Value)} {t : Nat} {κ : IntKind} {i j : Nat} (h : look l t = some (.int κ (i : Int))) (e : i = j) : look l t = some (.int κ (j : Int)) := e ▸ h
theorem look_bool {l : List (Nat × Value)} {t : Nat} {i j : Bool} (h : look l t = some (.bool i)) (e : i = j) : look l t = some (.bool j) := e ▸ h
theorem split_bool {p : Prop} (b : Bool) (h1 : b = true → p) (h2 : b = false → p) : p := by cases b; exact h2 rfl; exact h1 rfl
end Go.Sl
