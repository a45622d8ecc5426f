/- Walks through the functions that laws.FnWithoutPlaces reaches: what each computes; no conditions beyond what each theorem states. -/
import Derived.Test.YtpncgdecfhfjmaaProg
import Derived.Test.YtpncgdecfhfjmaaSlS
import Derived.Ground.SlgmProg
set_option linter.unusedVariables false
set_option linter.unusedSimpArgs false
namespace Go.Proofs.Ytpncgdecfhfjmaa.wFnWithoutPlaces
open Go Go.Sl
theorem Try.mixed : Try.prog.follows .mixedOrders = true := by kernel_rfl
theorem T22 : SlT Try.prog 22 3 1 8 (.int .i64 0) := ⟨Try.underlying22, ⟨Try.t3, by kernel_rfl, rfl, rfl, rfl⟩, rfl, by decide⟩
theorem T54 : SlT Try.prog 54 22 1 24 (.slice none 0 0) := ⟨Try.underlying54, ⟨Try.t22, by kernel_rfl, rfl, rfl, rfl⟩, rfl, by decide⟩
theorem T60 : SlT Try.prog 60 4 1 1 (.bool false) := ⟨Try.underlying60, ⟨Try.t4, by kernel_rfl, rfl, rfl, rfl⟩, rfl, by decide⟩
theorem MT93 : MapT Try.prog 93 3 98 (.agg #[]) := ⟨Try.underlying93, Try.underlying3, ⟨Try.t98, by kernel_rfl, rfl⟩⟩
theorem FB98__ (w : World) : (Instr.build 98 #[]).run Try.prog w = .ok (.agg #[]) w := run_build _ _ _ _ (by kernel_rfl)
def filtI (f : Int → Int → Bool) : Nat → List Int → List Int
  | _, [] => []
  | i, x :: l => if f x i then x :: filtI f (i + 1) l else filtI f (i + 1) l
theorem filtI_append (f : Int → Int → Bool) : ∀ (a b : List Int) (i : Nat), filtI f i (a ++ b) = filtI f i a ++ filtI f (i + a.length) b
  | [], b, i => by simp [filtI]
  | x :: a, b, i => by
    simp only [List.cons_append, filtI, filtI_append f a b (i + 1), List.length_cons]
    rw [show i + 1 + a.length = i + (a.length + 1) by omega]
    split <;> rfl
theorem filtI_succ {f : Int → Int → Bool} {l : List Int} {k : Nat} {x : Int} (h : l[k]? = some x) : filtI f 0 (l.take (k + 1)) = filtI f 0 (l.take k) ++ (if f x k then [x] else []) := by
  have hk := (List.getElem?_eq_some_iff.1 h).1
  rw [List.take_add_one, h, filtI_append]
  simp only [Option.toList_some, filtI, List.length_take, Nat.zero_add, Nat.min_eq_left (Nat.le_of_lt hk)]
theorem filtI_len (f : Int → Int → Bool) : ∀ (l : List Int) (i : Nat), (filtI f i l).length ≤ l.length
  | [], i => by simp [filtI]
  | x :: l, i => by have := filtI_len f l (i + 1); unfold filtI; split <;> simp <;> omega
def PF2T (P : Program) (fv : Value) (M : Hp) (f : Int → Int → Int × Bool) : Prop := fv.oneCell' = true ∧ ∀ x i : Int, Pu P fv M [.int .i64 x, .int .i64 i] (fun r _ => r = .tuple #[.int .i64 (f x i).1, .bool (f x i).2])
theorem PF2T.le {P : Program} {fv : Value} {M M' : Hp} {f : Int → Int → Int × Bool} (h : PF2T P fv M f) (hM : Hp.le M M') : PF2T P fv M' f := ⟨h.1, fun x i => (h.2 x i).le hM⟩
theorem comp_get {a l : List Int} {k : Nat} {x : Int} (hk : a.length ≤ k) (h : (a ++ l.drop a.length)[k]? = some x) : l[k]? = some x := by
  rw [List.getElem?_append_right hk, List.getElem?_drop, Nat.add_sub_cancel' hk] at h; exact h
theorem comp_set {a b l : List Int} {x : Int} (hk : a.length < l.length) (hb : b = a ++ [x]) : (a ++ l.drop a.length).set a.length x = b ++ l.drop b.length := by
  subst hb
  rw [List.set_append_right _ _ (Nat.le_refl _), Nat.sub_self, List.drop_eq_getElem_cons hk, List.set_cons_zero]
  simp
theorem filtI_prefix0 {f : Int → Int → Bool} {p l : List Int} (hp : p <+: l) : filtI f 0 p <+: filtI f 0 l := by
  obtain ⟨t, rfl⟩ := hp
  rw [filtI_append]; exact List.prefix_append _ _
theorem filtI_app1 (f : Int → Int → Bool) (a : List Int) (x : Int) : filtI f 0 (a ++ [x]) = filtI f 0 a ++ (if f x a.length then [x] else []) := by
  rw [filtI_append, Nat.zero_add]; rfl
theorem filtI_prefix {f : Int → Int → Bool} {p l : List Int} {x : Int} (hp : p ++ [x] <+: l) (hk : f x p.length = true) : filtI f 0 p ++ [x] <+: filtI f 0 l := by
  have h := filtI_prefix0 (f := f) hp
  rw [filtI_app1, if_pos hk] at h; exact h

def keyL (l : List Int) : List Int := l.foldl addS []
theorem keyL_succ {l : List Int} {k : Nat} {x : Int} (h : l[k]? = some x) : keyL (l.take (k + 1)) = addS (keyL (l.take k)) x := by rw [List.take_add_one, h]; simp [keyL]
theorem mem_foldl_addS (l : List Int) : ∀ (s : List Int) (x : Int), x ∈ l.foldl addS s ↔ x ∈ s ∨ x ∈ l := by
  induction l with
  | nil => intro s x; simp
  | cons a l ih => intro s x; rw [List.foldl_cons, ih, mem_addS]; simp [or_assoc]
theorem mem_keyL {l : List Int} {x : Int} : x ∈ keyL l ↔ x ∈ l := by unfold keyL; rw [mem_foldl_addS]; simp
def wnthL (l s : List Int) : List Int := filtI (fun _ i => !decide (i ∈ s)) 0 l

theorem take_all {P : Int → Prop} {l : List Int} {k : Nat} {y : Int} (h : ∀ x ∈ l.take k, P x) (hy : l[k]? = some y) (hp : P y) : ∀ x ∈ l.take (k + 1), P x := by
  intro x hx; rw [List.take_add_one, hy, List.mem_append] at hx
  rcases hx with hx | hx
  · exact h x hx
  · simp at hx; rw [hx]; exact hp
def fiI (f : Int → Bool) : List Int → Int
  | [] => -1
  | x :: l => if f x then 0 else (if fiI f l < 0 then -1 else fiI f l + 1)
theorem fiI_cons (f : Int → Bool) (a : Int) (l : List Int) : fiI f (a :: l) = if f a then 0 else (if fiI f l < 0 then -1 else fiI f l + 1) := rfl
def fiV (f : Int → Bool) (l : List Int) : Int := (l.find? f).getD 0
theorem fi_all {f : Int → Bool} : ∀ {p : List Int} {r : List Int}, (∀ x ∈ p, f x = false) → fiI f (p ++ r) = (if fiI f r < 0 then -1 else fiI f r + p.length) ∧ fiV f (p ++ r) = fiV f r ∧ (p ++ r).any f = r.any f
  | [], r, _ => by
    refine ⟨?_, rfl, rfl⟩
    simp only [List.nil_append, List.length_nil]; split
    · have h : ∀ r : List Int, fiI f r < 0 → fiI f r = -1 := by
        intro r; induction r with
        | nil => intro _; rfl
        | cons a r ih => intro h; rw [fiI_cons] at h ⊢; by_cases ha : f a = true
                         · rw [if_pos ha] at h; omega
                         · rw [if_neg ha] at h ⊢; split at h <;> rename_i h1
                           · rw [if_pos h1]
                           · omega
      exact h r (by assumption)
    · simp
  | a :: p, r, h => by
    have ha : f a = false := h a (by simp)
    obtain ⟨h1, h2, h3⟩ := fi_all (p := p) (r := r) fun x hx => h x (by simp [hx])
    refine ⟨?_, ?_, ?_⟩
    · rw [List.cons_append, fiI_cons, if_neg (by simp [ha]), h1]
      by_cases hr : fiI f r < 0
      · simp [hr]
      · simp only [hr, if_false]; rw [if_neg (by omega)]; simp; omega
    · rw [List.cons_append]; unfold fiV at h2 ⊢; rw [List.find?_cons, ha]; exact h2
    · rw [List.cons_append, List.any_cons, ha, h3]; rfl
theorem fi_none {f : Int → Bool} {l : List Int} (h : ∀ x ∈ l, f x = false) : fiI f l = -1 ∧ fiV f l = 0 ∧ l.any f = false := by
  have := fi_all (r := []) h; simpa [fiI, fiV] using this
theorem fi_pre {f : Int → Bool} {p l : List Int} {x : Int} (h : p ++ [x] <+: l) (ha : ∀ y ∈ p, f y = false) (hx : f x = true) : fiI f l = p.length ∧ fiV f l = x ∧ l.any f = true := by
  obtain ⟨r, rfl⟩ := h
  rw [List.append_assoc]
  have h1 := fi_all (r := [x] ++ r) ha
  simp only [List.cons_append, List.nil_append, fiI, hx, if_true, fiV, List.find?_cons, List.any_cons] at h1
  simpa [fiV] using h1
theorem fi_yes {f : Int → Bool} {l : List Int} {k : Nat} {x : Int} (h : ∀ x ∈ l.take k, f x = false) (hx : l[k]? = some x) (hf : f x = true) : fiI f l = k ∧ fiV f l = x ∧ l.any f = true := by
  have hk := (List.getElem?_eq_some_iff.1 hx).1
  have := fi_pre (pre_take_lt hx) h hf
  rw [List.length_take, Nat.min_eq_left (by omega)] at this; exact this
theorem fi_no {f : Int → Bool} {l : List Int} {k : Nat} (h : ∀ x ∈ l.take k, f x = false) (hk : l.length ≤ k) : fiI f l = -1 ∧ fiV f l = 0 ∧ l.any f = false := by
  rw [List.take_of_length_le hk] at h; exact fi_none h
theorem fi_at {f : Int → Bool} : ∀ {l : List Int}, l.any f = true → 0 ≤ fiI f l ∧ (fiI f l).toNat < l.length ∧ l[(fiI f l).toNat]? = some (fiV f l)
  | [], h => by simp at h
  | a :: l, h => by
    by_cases ha : f a = true
    · simp [fiI, ha, fiV, List.find?_cons]
    · have h2 : l.any f = true := by simpa [ha] using h
      obtain ⟨h3, h4, h5⟩ := fi_at h2
      have e : fiI f (a :: l) = fiI f l + 1 := by rw [fiI_cons, if_neg ha, if_neg (by omega)]
      rw [e]
      refine ⟨by omega, by simp; omega, ?_⟩
      rw [show (fiI f l + 1).toNat = (fiI f l).toNat + 1 by omega, List.getElem?_cons_succ, h5]
      unfold fiV; rw [List.find?_cons, show f a = false by simpa using ha]
theorem fi_any_neg {f : Int → Bool} {l : List Int} : l.any f = decide (0 ≤ fiI f l) := by
  cases h : l.any f
  · have := (fi_none (f := f) (l := l) fun x hx => by have := List.any_eq_false.1 h x hx; simpa using this).1
    rw [this]; rfl
  · have := (fi_at h).1; simp [this]

def eqx (x y : Int) : Bool := decide (y = x)
theorem eqx_yes {x y : Int} (h : y = x) : eqx x y = true := decide_eq_true h
theorem eqx_no {x y : Int} (h : ¬ y = x) : eqx x y = false := decide_eq_false h
theorem eqx_yes' {x y : Int} (h : x = y) : eqx x y = true := decide_eq_true h.symm
theorem eqx_no' {x y : Int} (h : ¬ x = y) : eqx x y = false := decide_eq_false fun e => h e.symm
theorem any_eqx (l : List Int) (x : Int) : l.any (eqx x) = decide (x ∈ l) := by
  rw [Bool.eq_iff_iff, List.any_eq_true, decide_eq_true_eq]
  constructor
  · rintro ⟨y, h1, h2⟩; have := of_decide_eq_true h2; subst this; exact h1
  · intro h; exact ⟨x, h, eqx_yes rfl⟩
theorem fi_mem (l : List Int) (x : Int) : decide (0 ≤ fiI (eqx x) l) = decide (x ∈ l) := by rw [← fi_any_neg, any_eqx]

theorem take_snoc {b : List Int} {i : Nat} {x : Int} (h : b[i]? = some x) : b.take (i + 1) = b.take i ++ [x] := by rw [List.take_add_one, h]; rfl
def SortedI (l : List Int) : Prop := l.Pairwise (· ≤ ·)
def SortedU (l : List Int) : Prop := l.Pairwise (· < ·)
theorem SortedU.le {l : List Int} (h : SortedU l) : SortedI l := List.Pairwise.imp (fun h => by omega) h
instance (l : List Int) : Decidable (SortedI l) := inferInstanceAs (Decidable (l.Pairwise (· ≤ ·)))
theorem srtM_sorted (l : List Int) : SortedI (srtM l) := by
  have := List.pairwise_mergeSort (le := fun x y : Int => decide (x ≤ y)) (fun a b c h1 h2 => by simp at *; omega) (fun a b => by simp; omega) l
  exact List.Pairwise.imp (fun h => by simpa using h) this
theorem srtM_perm (l : List Int) : (srtM l).Perm l := List.mergeSort_perm ..
theorem nodup_len : ∀ {D S : List Int}, D.Nodup → (∀ z ∈ D, z ∈ S) → D.length ≤ S.length
  | [], S, _, _ => Nat.zero_le _
  | x :: D, S, hn, h => by
    rw [List.nodup_cons] at hn
    have hx := List.perm_cons_erase (h x (List.mem_cons_self ..))
    have := nodup_len (S := S.erase x) hn.2 fun z hz => (List.mem_erase_of_ne (fun e => hn.1 (by rw [← e]; exact hz))).2 (h z (List.mem_cons_of_mem _ hz))
    have h2 := hx.length_eq
    simp only [List.length_cons] at h2 ⊢; omega
def endS (g : Int → Int → Int) (s : Int) (l : List Int) : Int := l.foldl g s
theorem endS_snoc (g : Int → Int → Int) (s : Int) (l : List Int) (x : Int) : endS g s (l ++ [x]) = g (endS g s l) x := by simp [endS]
/-! ## crossing -/
theorem tk_snoc {α : Type} {l : List α} {k : Nat} {x : α} (h : l[k]? = some x) : l.take (k + 1) = l.take k ++ [x] := by rw [List.take_add_one, h]; rfl
theorem list_snoc {P : List Int → Prop} (h0 : P []) (h : ∀ p x, P p → P (p ++ [x])) (l : List Int) : P l := by
  rw [← List.reverse_reverse l]
  induction l.reverse with
  | nil => exact h0
  | cons a q ih => rw [List.reverse_cons]; exact h _ _ ih
/-! ## filtering with a state -/
def filtS (f : Int → Int → Bool) (g : Int → Int → Int) : Int → List Int → List Int
  | _, [] => []
  | s, x :: l => if f s x = true then x :: filtS f g (g s x) l else filtS f g (g s x) l
theorem filtS_snoc (f : Int → Int → Bool) (g : Int → Int → Int) (x : Int) : ∀ (l : List Int) (s : Int), filtS f g s (l ++ [x]) = filtS f g s l ++ (if f (endS g s l) x = true then [x] else [])
  | [], s => by by_cases h : f s x = true <;> simp [filtS, endS, h]
  | a :: l, s => by
    simp only [List.cons_append, filtS, filtS_snoc f g x l (g s a)]
    split <;> rfl
theorem filtS_len (f : Int → Int → Bool) (g : Int → Int → Int) : ∀ (l : List Int) (s : Int), (filtS f g s l).length ≤ l.length
  | [], s => Nat.le_refl _
  | a :: l, s => by
    have := filtS_len f g l (g s a)
    simp only [filtS]; split <;> simp only [List.length_cons] <;> omega
theorem fS_yes {f : Int → Int → Bool} {g : Int → Int → Int} {s : Int} {l : List Int} {k : Nat} {x : Int} (h : l[k]? = some x) (hf : f (endS g s (l.take k)) x = true) : filtS f g s (l.take (k + 1)) = filtS f g s (l.take k) ++ [x] := by rw [take_snoc h, filtS_snoc, if_pos hf]
theorem fS_no {f : Int → Int → Bool} {g : Int → Int → Int} {s : Int} {l : List Int} {k : Nat} {x : Int} (h : l[k]? = some x) (hf : f (endS g s (l.take k)) x = false) : filtS f g s (l.take (k + 1)) = filtS f g s (l.take k) := by rw [take_snoc h, filtS_snoc, if_neg (by simp [hf]), List.append_nil]
theorem eS_step {g : Int → Int → Int} {s : Int} {l : List Int} {k : Nat} {x : Int} (h : l[k]? = some x) : g (endS g s (l.take k)) x = endS g s (l.take (k + 1)) := by rw [take_snoc h, endS_snoc]
/-! ## dropping by places -/
def inR (n : Nat) (x : Int) : Bool := decide (IntKind.u64.wrap x < IntKind.u64.wrap (n : Int))
def drF (n : Nat) (s x : Int) : Bool := decide (x ≠ s) && inR n x
def drG (_ x : Int) : Int := x
theorem inR_iff {n : Nat} {x : Int} (hn : n ≤ 1000000000000) (hx : -9223372036854775808 ≤ x ∧ x ≤ 9223372036854775807) : inR n x = true ↔ 0 ≤ x ∧ x < n := by
  unfold inR; rw [decide_eq_true_eq, u64_wrap, u64_wrap]; omega
def drD (n : Nat) (s : Int) (L : List Int) : List Int := filtS (drF n) drG s L
theorem drD_spec {n : Nat} (hn : n ≤ 1000000000000) : ∀ (L : List Int) (s : Int), L.Pairwise (· ≤ ·) → (∀ x ∈ L, -9223372036854775808 ≤ x ∧ x ≤ 9223372036854775807) → ((∀ x ∈ L, s ≤ x) ∨ inR n s = false) →
    (drD n s L).Pairwise (· < ·) ∧ (∀ z, z ∈ drD n s L ↔ z ∈ L ∧ inR n z = true ∧ z ≠ s) ∧ ((∀ x ∈ L, s ≤ x) → ∀ z ∈ drD n s L, s < z)
  | [], s, _, _, _ => by simp [drD, filtS]
  | x :: L, s, hp, hr, hs => by
    rw [List.pairwise_cons] at hp
    obtain ⟨i1, i2, i3⟩ := drD_spec hn L x hp.2 (fun y hy => hr y (List.mem_cons_of_mem _ hy)) (.inl hp.1)
    have i4 := i3 hp.1
    have e : drD n s (x :: L) = if drF n s x = true then x :: drD n x L else drD n x L := rfl
    have hns : ∀ z, z ∈ drD n x L → inR n z = true → z ≠ s := fun z hz hi => by
      rcases hs with h | h
      · have := h x (List.mem_cons_self ..); have := i4 z hz; omega
      · intro e; subst e; rw [h] at hi; cases hi
    rw [e]
    by_cases hk : drF n s x = true
    · rw [if_pos hk]
      have hk2 : x ≠ s ∧ inR n x = true := by unfold drF at hk; simpa using hk
      refine ⟨List.pairwise_cons.2 ⟨i4, i1⟩, fun z => ?_, fun h z hz => ?_⟩
      · rw [List.mem_cons, List.mem_cons, i2]
        constructor
        · rintro (rfl | ⟨h1, h2, h3⟩)
          · exact ⟨.inl rfl, hk2.2, hk2.1⟩
          · exact ⟨.inr h1, h2, hns z ((i2 z).2 ⟨h1, h2, h3⟩) h2⟩
        · rintro ⟨h1 | h1, h2, h3⟩
          · exact .inl h1
          · by_cases h4 : z = x
            · exact .inl h4
            · exact .inr ⟨h1, h2, h4⟩
      · have h5 := h x (List.mem_cons_self ..)
        rcases List.mem_cons.1 hz with rfl | hz
        · have := hk2.1; omega
        · have := i4 z hz; omega
    · rw [if_neg hk]
      have hk2 : x = s ∨ inR n x = false := by
        unfold drF at hk
        by_cases h : x = s
        · exact .inl h
        · right; simp [h] at hk; simpa using hk
      refine ⟨i1, fun z => ?_, fun h z hz => ?_⟩
      · rw [List.mem_cons, i2]
        constructor
        · rintro ⟨h1, h2, h3⟩
          exact ⟨.inr h1, h2, hns z ((i2 z).2 ⟨h1, h2, h3⟩) h2⟩
        · rintro ⟨h1, h2, h3⟩
          have h4 : z ≠ x := fun e => by
            subst e
            rcases hk2 with h5 | h5
            · exact h3 h5
            · rw [h5] at h2; cases h2
          rcases h1 with h1 | h1
          · exact absurd h1 h4
          · exact ⟨h1, h2, h4⟩
      · have h5 := h x (List.mem_cons_self ..); have := i4 z hz; omega
/-- the parts that are left, up to the places D -/
def sgA (l : List Int) (D : List Int) : List Int × Nat := D.foldl (fun r d => (r.1 ++ (l.take d.toNat).drop r.2, d.toNat + 1)) ([], 0)
theorem sgA_snoc (l D : List Int) (d : Int) : sgA l (D ++ [d]) = ((sgA l D).1 ++ (l.take d.toNat).drop (sgA l D).2, d.toNat + 1) := by simp [sgA]
theorem filtI_congrR {f g : Int → Int → Bool} : ∀ {l : List Int} {i : Nat}, (∀ (j : Nat) x, i ≤ j → j < i + l.length → f x j = g x j) → filtI f i l = filtI g i l
  | [], i, _ => rfl
  | x :: l, i, h => by
    unfold filtI
    rw [h i x (Nat.le_refl _) (by simp), filtI_congrR (l := l) (i := i + 1) fun j y h1 h2 => h j y (by omega) (by simp only [List.length_cons]; omega)]
theorem filtI_allR {f : Int → Int → Bool} : ∀ {l : List Int} {i : Nat}, (∀ (j : Nat) x, i ≤ j → j < i + l.length → f x j = true) → filtI f i l = l
  | [], i, _ => rfl
  | x :: l, i, h => by
    unfold filtI
    rw [h i x (Nat.le_refl _) (by simp), if_pos rfl, filtI_allR (l := l) (i := i + 1) fun j y h1 h2 => h j y (by omega) (by simp only [List.length_cons]; omega)]
theorem sgA_inv {l D : List Int} (hD : D.Pairwise (· < ·)) (hr : ∀ z ∈ D, 0 ≤ z ∧ z < l.length) : (sgA l D).1 = filtI (fun _ i => !decide (i ∈ D)) 0 (l.take (sgA l D).2) ∧ (sgA l D).2 ≤ l.length ∧ (∀ z ∈ D, z < (sgA l D).2) ∧ (∀ y, (∀ z ∈ D, z < y) → 0 ≤ y → ((sgA l D).2 : Int) ≤ y) := by
  revert hD hr
  refine list_snoc (P := fun D => D.Pairwise (· < ·) → (∀ z ∈ D, 0 ≤ z ∧ z < l.length) → (sgA l D).1 = filtI (fun _ i => !decide (i ∈ D)) 0 (l.take (sgA l D).2) ∧ (sgA l D).2 ≤ l.length ∧ (∀ z ∈ D, z < (sgA l D).2) ∧ (∀ y, (∀ z ∈ D, z < y) → 0 ≤ y → ((sgA l D).2 : Int) ≤ y)) (fun _ _ => ⟨by simp [sgA, filtI], by simp [sgA], by simp, fun y _ h => by simpa [sgA] using h⟩) ?_ D
  intro D d ih hD hr
  rw [List.pairwise_append] at hD
  obtain ⟨i1, i2, i3, i4⟩ := ih hD.1 fun z hz => hr z (List.mem_append_left _ hz)
  have hd := hr d (by simp)
  have hlt : ∀ z ∈ D, z < d := fun z hz => hD.2.2 z hz d (by simp)
  have hsd := i4 d hlt hd.1
  obtain ⟨m, rfl⟩ := Int.eq_ofNat_of_zero_le hd.1
  rw [sgA_snoc]
  simp only [Int.toNat_natCast]
  have hm : m < l.length := by omega
  have hsm : (sgA l D).2 ≤ m := by omega
  refine ⟨?_, by omega, fun z hz => ?_, fun y hy h0 => ?_⟩
  · have e : l.take (m + 1) = l.take (sgA l D).2 ++ ((l.take m).drop (sgA l D).2 ++ [l[m]]) := by
      have h1 : l.take (m + 1) = l.take m ++ [l[m]] := by rw [tk_snoc (List.getElem?_eq_getElem hm)]
      have h2 : l.take m = l.take (sgA l D).2 ++ (l.take m).drop (sgA l D).2 := by
        conv => lhs; rw [← List.take_append_drop (sgA l D).2 (l.take m), List.take_take, Nat.min_eq_left hsm]
      rw [h1]; conv => lhs; rw [h2]
      rw [List.append_assoc]
    rw [e, filtI_append, i1]
    congr 1
    · refine filtI_congrR fun j x h1 h2 => ?_
      rw [List.length_take] at h2
      have : ¬ ((j : Int) = (m : Int)) := by omega
      simp [List.mem_append, this]
    · rw [filtI_append]
      have hl : (l.take (sgA l D).2).length = (sgA l D).2 := by rw [List.length_take]; omega
      rw [hl]
      have hl2 : ((l.take m).drop (sgA l D).2).length = m - (sgA l D).2 := by rw [List.length_drop, List.length_take]; omega
      rw [filtI_allR (fun j x h1 h2 => ?_)]
      · rw [hl2]
        have : 0 + (sgA l D).2 + (m - (sgA l D).2) = m := by omega
        simp only [filtI, this]
        simp
      · rw [hl2] at h2
        have h3 : ¬ (j : Int) ∈ D ++ [(m : Int)] := fun hm => by
          rcases List.mem_append.1 hm with h | h
          · have := i3 _ h; omega
          · simp at h; omega
        simpa using h3
  · rcases List.mem_append.1 hz with h | h
    · have := hlt z h; omega
    · simp at h; subst h; omega
  · have := hy (m : Int) (by simp); omega
theorem sgA_end {l D : List Int} (hD : D.Pairwise (· < ·)) (hr : ∀ z ∈ D, 0 ≤ z ∧ z < l.length) : (sgA l D).1 ++ l.drop (sgA l D).2 = wnthL l D := by
  obtain ⟨i1, i2, i3, _⟩ := sgA_inv hD hr
  unfold wnthL
  conv => rhs; rw [← List.take_append_drop (sgA l D).2 l, filtI_append]
  rw [i1]
  congr 1
  have hl : (l.take (sgA l D).2).length = (sgA l D).2 := by rw [List.length_take]; omega
  rw [hl, filtI_allR fun j x h1 h2 => ?_]
  have h3 : ¬ (j : Int) ∈ D := fun h => by have := i3 _ h; omega
  simpa using h3
theorem wnth_congr {l D D' : List Int} (h : ∀ i : Nat, i < l.length → ((i : Int) ∈ D ↔ (i : Int) ∈ D')) : wnthL l D = wnthL l D' := by
  unfold wnthL
  refine filtI_congrR fun j x h1 h2 => ?_
  have := h j (by omega)
  by_cases h3 : (j : Int) ∈ D
  · simp [h3, this.1 h3]
  · simp [h3, mt this.2 h3]
def adjN (n : Nat) (x : Int) : Int := if x < 0 then x + n else x
theorem adj_get {n : Nat} {l : List Int} {k : Nat} {x : Int} (hk : k < l.length) (h : ((l.take k).map (adjN n) ++ l.drop k)[k]? = some x) : l[k]? = some x := by
  have e : ((l.take k).map (adjN n)).length = k := by rw [List.length_map, List.length_take]; omega
  rw [List.getElem?_append_right (by omega), e, Nat.sub_self, List.getElem?_drop] at h; simpa using h
theorem adj_yes {n : Nat} {l : List Int} {k : Nat} {x : Int} (hk : k < l.length) (h : ((l.take k).map (adjN n) ++ l.drop k)[k]? = some x) (hx : x < 0) : ((l.take k).map (adjN n) ++ l.drop k).set k (x + n) = (l.take (k + 1)).map (adjN n) ++ l.drop (k + 1) := by
  have h1 := adj_get hk h
  have e : ((l.take k).map (adjN n)).length = k := by rw [List.length_map, List.length_take]; omega
  rw [take_snoc h1, List.set_append_right _ _ (by omega), e, Nat.sub_self, List.map_append, List.append_assoc]
  congr 1
  rw [List.drop_eq_getElem_cons hk, List.set_cons_zero]
  simp only [List.map_cons, List.map_nil, List.cons_append, List.nil_append]; unfold adjN; rw [if_pos hx]
theorem adj_no {n : Nat} {l : List Int} {k : Nat} {x : Int} (hk : k < l.length) (h : ((l.take k).map (adjN n) ++ l.drop k)[k]? = some x) (hx : ¬ x < 0) : (l.take k).map (adjN n) ++ l.drop k = (l.take (k + 1)).map (adjN n) ++ l.drop (k + 1) := by
  have h1 := adj_get hk h
  rw [take_snoc h1, List.map_append, List.append_assoc]
  congr 1
  rw [List.drop_eq_getElem_cons hk]
  have : l[k] = x := by rw [List.getElem?_eq_getElem hk] at h1; exact Option.some.inj h1
  simp [adjN, hx, this]
abbrev I64R (l : List Int) : Prop := ∀ x ∈ l, -9223372036854775808 ≤ x ∧ x ≤ 9223372036854775807
theorem adj_rng {n : Nat} {l : List Int} (hn : n ≤ 1000000) (h : I64R l) : I64R (l.map (adjN n)) := by
  intro x hx
  obtain ⟨y, hy, rfl⟩ := List.mem_map.1 hx
  have := h y hy
  unfold adjN; split <;> omega
/-! ## places -/
def plB (n : Nat) (l : List Int) : List Bool := (List.range n).map fun i : Nat => decide ((i : Int) ∈ l)
theorem plB_len (n : Nat) (l : List Int) : (plB n l).length = n := by simp [plB]
theorem plB_zero (n : Nat) : List.replicate n false = plB n [] := by
  apply List.ext_getElem?; intro i; simp [plB, List.getElem?_replicate, List.getElem?_range]; split <;> simp_all
theorem plB_in {n : Nat} {l : List Int} {k : Nat} {x : Int} (h : l[k]? = some x) (h0 : 0 ≤ x) (h1 : x < n) : (plB n (l.take k)).set x.toNat true = plB n (l.take (k + 1)) := by
  apply List.ext_getElem?; intro i
  have hn : x.toNat < n := by omega
  by_cases e : x.toNat = i
  · subst e
    rw [List.getElem?_set_self (by rw [plB_len]; exact hn), take_snoc h]
    unfold plB
    rw [List.getElem?_map, List.getElem?_range hn]
    have : ((x.toNat : Nat) : Int) = x := by omega
    simp [this]
  · rw [List.getElem?_set_ne e, take_snoc h]
    unfold plB
    rw [List.getElem?_map, List.getElem?_map]
    by_cases hi : i < n
    · rw [List.getElem?_range hi]
      have : ¬ (i : Int) = x := by omega
      simp [this]
    · rw [List.getElem?_eq_none (by simpa using hi)]; rfl
theorem plB_out {n : Nat} {l : List Int} {k : Nat} {x : Int} (h : l[k]? = some x) (hx : ¬ (0 ≤ x ∧ x < n)) : plB n (l.take k) = plB n (l.take (k + 1)) := by
  unfold plB
  refine List.map_congr_left fun i hi => ?_
  have := List.mem_range.1 hi
  have h2 : ¬ (i : Int) = x := by omega
  rw [take_snoc h]; simp [h2]
theorem plB_get {n : Nat} {l : List Int} {k : Nat} {b : Bool} (h : (plB n l)[k]? = some b) : b = decide ((k : Int) ∈ l) := by
  unfold plB at h; rw [List.getElem?_map] at h
  cases e : (List.range n)[k]? with
  | none => rw [e] at h; cases h
  | some i => rw [e] at h; obtain ⟨h1, h2⟩ := List.getElem?_eq_some_iff.1 e; simp at h2; subst h2; simpa using h.symm
theorem wn_yes {l D : List Int} {k : Nat} {x : Int} {b : Bool} {n : Nat} (h : l[k]? = some x) (hb : (plB n D)[k]? = some b) (hf : b = false) : wnthL (l.take k) D ++ [x] = wnthL (l.take (k + 1)) D := by
  have := plB_get hb
  unfold wnthL; rw [filtI_succ h]
  have h2 : ¬ (k : Int) ∈ D := by rw [hf] at this; simpa using this
  simp [h2]
theorem wn_no {l D : List Int} {k : Nat} {x : Int} {b : Bool} {n : Nat} (h : l[k]? = some x) (hb : (plB n D)[k]? = some b) (hf : b = true) : wnthL (l.take k) D = wnthL (l.take (k + 1)) D := by
  have := plB_get hb
  unfold wnthL; rw [filtI_succ h]
  have h2 : (k : Int) ∈ D := by rw [hf] at this; simpa using this
  simp [h2]
/-- places from the end, those that there are -/
def backF (n : Nat) (x : Int) : Int := if x < 0 ∧ -(n : Int) ≤ x then x + n else x
theorem back_adj {n : Nat} {D : List Int} {i : Nat} (hi : i < n) : (i : Int) ∈ D.map (backF n) ↔ (i : Int) ∈ D.map (adjN n) := by
  constructor
  · intro h
    obtain ⟨x, hx, e⟩ := List.mem_map.1 h
    refine List.mem_map.2 ⟨x, hx, ?_⟩
    unfold backF at e; unfold adjN
    split at e <;> split <;> omega
  · intro h
    obtain ⟨x, hx, e⟩ := List.mem_map.1 h
    refine List.mem_map.2 ⟨x, hx, ?_⟩
    unfold adjN at e; unfold backF
    split at e <;> split <;> omega
theorem wn_back {l D : List Int} : wnthL l (D.map (adjN l.length)) = wnthL l (D.map (backF l.length)) := wnth_congr fun i hi => (back_adj hi).symm
theorem spd_back {l D : List Int} : filtI (fun _ i => !decide (i ∈ D) && !decide (i - l.length ∈ D)) 0 l = wnthL l (D.map (backF l.length)) := by
  unfold wnthL
  refine filtI_congrR fun j x h1 h2 => ?_
  have hj : j < l.length := by omega
  have key : (j : Int) ∈ D.map (backF l.length) ↔ (j : Int) ∈ D ∨ (j : Int) - l.length ∈ D := by
    constructor
    · intro h
      obtain ⟨y, hy, e⟩ := List.mem_map.1 h
      unfold backF at e
      split at e
      · right; rw [show (j : Int) - l.length = y by omega]; exact hy
      · left; rw [← e]; exact hy
    · rintro (h | h)
      · exact List.mem_map.2 ⟨_, h, by unfold backF; split <;> omega⟩
      · exact List.mem_map.2 ⟨_, h, by unfold backF; split <;> omega⟩
  by_cases h3 : (j : Int) ∈ D <;> by_cases h4 : (j : Int) - l.length ∈ D <;> simp [h3, h4, key]
theorem bk_yes {D : List Int} {n k : Nat} {x : Int} (h : D[k]? = some x) (h1 : x < 0) (h2 : -(n : Int) ≤ x) : (D.take k).map (backF n) ++ [x + n] = (D.take (k + 1)).map (backF n) := by
  rw [take_snoc h, List.map_append]; simp [backF, h1, h2]
theorem bk_no {D : List Int} {n k : Nat} {x : Int} (h : D[k]? = some x) (h1 : ¬ (x < 0 ∧ -(n : Int) ≤ x)) : (D.take k).map (backF n) ++ [x] = (D.take (k + 1)).map (backF n) := by
  rw [take_snoc h, List.map_append]; simp only [List.map_cons, List.map_nil]; unfold backF; rw [if_neg h1]
theorem wnth_len (l D : List Int) : (wnthL l D).length ≤ l.length := filtI_len _ _ _
theorem wn_yesN {l D : List Int} {k : Nat} {x : Int} {b : Bool} {n : Nat} (h : l[k]? = some x) (hb : (plB n D)[k]? = some b) (hf : (!b) = true) : wnthL (l.take k) D ++ [x] = wnthL (l.take (k + 1)) D := wn_yes h hb (by simpa using hf)
theorem wn_noN {l D : List Int} {k : Nat} {x : Int} {b : Bool} {n : Nat} (h : l[k]? = some x) (hb : (plB n D)[k]? = some b) (hf : (!b) = false) : wnthL (l.take k) D = wnthL (l.take (k + 1)) D := wn_no h hb (by simpa using hf)
def dbD (n : Nat) (A : List Int) : List Int := drD n (-1) (srtM A)
theorem dbD_spec {n : Nat} {A : List Int} (hn : n ≤ 1000000) (hA : I64R A) : (dbD n A).Pairwise (· < ·) ∧ (∀ z, z ∈ dbD n A ↔ z ∈ A ∧ 0 ≤ z ∧ z < n) := by
  have hmem : ∀ z, z ∈ srtM A ↔ z ∈ A := fun z => (srtM_perm A).mem_iff
  have hm1 : inR n (-1) = false := by
    cases h : inR n (-1) with
    | false => rfl
    | true => have := (inR_iff (by omega) (by omega)).1 h; omega
  obtain ⟨h1, h2, _⟩ := drD_spec (n := n) (by omega) (srtM A) (-1) (srtM_sorted A) (fun x hx => hA x ((hmem x).1 hx)) (.inr hm1)
  refine ⟨h1, fun z => ?_⟩
  show z ∈ drD n (-1) (srtM A) ↔ _
  rw [h2, hmem]
  constructor
  · rintro ⟨h3, h4, _⟩; exact ⟨h3, (inR_iff (by omega) (hA z h3)).1 h4⟩
  · rintro ⟨h3, h4⟩; exact ⟨h3, (inR_iff (by omega) (hA z h3)).2 h4, by omega⟩
theorem dbD_rng {n : Nat} {A : List Int} (hn : n ≤ 1000000) (hA : I64R A) : ∀ z ∈ dbD n A, 0 ≤ z ∧ z < n := fun z hz => (((dbD_spec hn hA).2 z).1 hz).2
theorem dbD_len {n : Nat} {A : List Int} (hn : n ≤ 1000000) (hA : I64R A) : (dbD n A).length ≤ n := by
  have h := nodup_len (D := dbD n A) (S := (List.range n).map (fun i : Nat => (i : Int))) (List.Pairwise.imp (fun h => by omega) (dbD_spec hn hA).1) fun z hz => by
    have := dbD_rng hn hA z hz
    exact List.mem_map.2 ⟨z.toNat, List.mem_range.2 (by omega), by omega⟩
  simpa using h
theorem sg_at {l A : List Int} {k : Nat} {x : Int} (hn : l.length ≤ 1000000) (hA : I64R A) (h : (dbD l.length A)[k]? = some x) : 0 ≤ x ∧ x < l.length ∧ (sgA l ((dbD l.length A).take k)).2 ≤ x.toNat := by
  have hs := dbD_spec hn hA
  have hx := dbD_rng hn hA x (List.mem_of_getElem? h)
  refine ⟨hx.1, hx.2, ?_⟩
  have hp : ((dbD l.length A).take (k + 1)).Pairwise (· < ·) := List.Pairwise.sublist (List.take_sublist ..) hs.1
  rw [take_snoc h, List.pairwise_append] at hp
  have := (sgA_inv (l := l) hp.1 fun z hz => dbD_rng hn hA z (List.mem_of_mem_take hz)).2.2.2 x (fun z hz => hp.2.2 z hz x (by simp)) hx.1
  omega
theorem sg_bnd {l A : List Int} (k : Nat) (hn : l.length ≤ 1000000) (hA : I64R A) : (sgA l ((dbD l.length A).take k)).2 ≤ l.length ∧ (sgA l ((dbD l.length A).take k)).1.length ≤ l.length := by
  have hs := dbD_spec hn hA
  have h := sgA_inv (l := l) (D := (dbD l.length A).take k) (List.Pairwise.sublist (List.take_sublist ..) hs.1) fun z hz => dbD_rng hn hA z (List.mem_of_mem_take hz)
  refine ⟨h.2.1, ?_⟩
  rw [h.1]; exact Nat.le_trans (filtI_len _ _ _) (by rw [List.length_take]; omega)
theorem db_end {l A : List Int} (hn : l.length ≤ 1000000) (hA : I64R A) : (sgA l (dbD l.length A)).1 ++ l.drop (sgA l (dbD l.length A)).2 = wnthL l A := by
  have hs := dbD_spec hn hA
  rw [sgA_end hs.1 (dbD_rng hn hA)]
  exact wnth_congr fun i hi => by rw [hs.2]; exact ⟨fun h => h.1, fun h => ⟨h, by omega⟩⟩

set_option maxRecDepth 100000 in
set_option maxHeartbeats 4000000 in
theorem lo_Keyify {M : Hp} {v0 : Value} {l0 : List Int} (h0 : RdI M v0 l0) :
    Sp Try.prog (.func (.func 91) #[] #[]) M [v0] [] (fun r M' C' => ∃ b, r = .map (some b) ∧ C' = [OwnS b (keyL l0)]) := by
  refine Sp_enter Try.func91 rfl Try.ntmps91 rfl Try.call91 ?_
  intro a w M1 H hM1 S E
  replace h0 := h0.le hM1
  have b0 := h0.bound
  refine WP_seq ?_
  refine WP_region ?_
  refine S_v E rfl (R_assign E rfl) rfl ?_
  clear E a; intro a E
  refine WL_nil ?_
  refine T_n ?_
  refine WP_seq ?_
  refine WP_region ?_
  refine S_v E rfl (R_move E rfl) rfl ?_
  clear E a; intro a E
  refine S_v E rfl (R_lenV E rfl T22 h0.len) rfl ?_
  clear E a; intro a E
  refine S_x (X_makeMapR E S rfl MT93 rfl ?_)
  clear E a S; rintro a w b_1 E S
  replace S : St w M1 (OwnS b_1 ([] : List Int) :: _) := S
  refine S_v E rfl (R_assign E rfl) rfl ?_
  clear E a; intro a E
  refine WL_nil ?_
  refine T_n ?_
  refine WP_seq ?_
  refine WP_seq ?_
  refine WP_region ?_
  refine S_v E rfl (R_move E rfl) rfl ?_
  clear E a; intro a E
  refine S_v E rfl (R_lenV E rfl T22 h0.len) rfl ?_
  clear E a; intro a E
  refine S_v E rfl (R_move E rfl) rfl ?_
  clear E a; intro a E
  refine WL_nil ?_
  refine T_n ?_
  refine WP_block ?_
  replace S := S.reM (L' := (Sl.encS (keyL (l0.take 0)))) (congrArg Sl.encS (show ([] : List Int) = keyL (l0.take 0) by first | (simp [keyL]; done) | exact (keyL_succ (by assumption)).symm))
  refine WP_loop (γ := Nat) (fun (k : Nat) a w => ∃ (M_2 : Hp), Hp.le M1 M_2 ∧ St w M_2 (OwnS b_1 (keyL (l0.take k)) :: H) ∧ Env a 21 [] [(0, v0), (3, .map (some b_1)), (9, .int .i64 (((l0).length : Nat) : Int)), (10, .int .i64 ((k : Nat) : Int))] ∧ (k ≤ (l0).length)) (fun k => ((l0).length) - k) 0 ⟨M1, Hp.le.refl _, S, E.keep ⟨rfl, rfl, rfl, rfl, trivial⟩, by ((try clear S); (try clear E); first | assumption | omega | rfl | (simp; done) | (simp_all; done) | (simp [List.take_add_one, *]; done) | grind [List.take_add_one])⟩ ?_
  try clear E
  try clear S
  try clear a
  try clear w
  rintro k a w ⟨M_2, hM_2, S, E, hL0_0⟩
  replace h0 := h0.le hM_2
  refine WP_seq ?_
  refine WP_region ?_
  refine S_v E rfl (R_lss E rfl rfl) rfl ?_
  clear E a; intro a E
  refine WL_nil ?_
  refine T_n ?_
  refine WP_seq ?_
  refine WP_cond E rfl (fun hc_3 => ?_) (fun hc_3 => ?_)
  · replace hc_3 := of_decide_eq_true hc_3
    refine WP_skip ?_
    refine T_n ?_
    refine WP_seq ?_
    refine WP_block ?_
    refine WP_seq ?_
    refine WP_region ?_
    refine S_v E rfl (R_move E rfl) rfl ?_
    clear E a; intro a E
    refine S_v E rfl (R_assign E rfl) rfl ?_
    clear E a; intro a E
    refine WL_nil ?_
    refine T_n ?_
    refine WP_region ?_
    refine S_v E rfl (R_move E rfl) rfl ?_
    clear E a; intro a E
    refine S_v E rfl (R_move E rfl) rfl ?_
    clear E a; intro a E
    refine S_v E rfl (R_move E rfl) rfl ?_
    clear E a; intro a E
    obtain ⟨x_4, hx_4⟩ : ∃ x, (l0)[k]? = some x := ⟨_, List.getElem?_eq_getElem (by first | omega | (simp; done) | (simp; omega) | (simp_all; omega))⟩
    obtain ⟨p_5, hp_5, qp_5⟩ := h0.at hx_4
    refine S_v E rfl (R_idx E rfl rfl T22 hp_5 rfl) rfl ?_
    clear E a; intro a E
    refine S_v E rfl (R_loadM E rfl Try.isAgg3 S.imm qp_5) rfl ?_
    clear E a; intro a E
    refine S_v E rfl (R_build (u := .agg #[]) (vs := []) E rfl (fun w => FB98__  w)) rfl ?_
    clear E a; intro a E
    refine S_x0 (X_updateS E S MT93 rfl rfl rfl ?_)
    clear E a S; rintro a w E S
    refine WL_nil ?_
    refine B_n ?_
    refine T_n ?_
    refine WP_region ?_
    refine S_v E rfl (R_addx (m := ((k + 1 : Nat) : Int)) E rfl rfl (by omega) (by omega)) rfl ?_
    clear E a; intro a E
    refine S_v E rfl (R_move E rfl) rfl ?_
    clear E a; intro a E
    refine WL_nil ?_
    refine T_n ?_
    replace S := S.reM (L' := (Sl.encS (keyL (l0.take (k + 1))))) (congrArg Sl.encS (show addS (keyL (l0.take k)) x_4 = keyL (l0.take (k + 1)) by first | (simp [keyL]; done) | exact (keyL_succ (by assumption)).symm))
    exact ⟨k + 1, ⟨M_2, hM_2, S, E.keep ⟨rfl, rfl, rfl, rfl, trivial⟩, by ((try clear S); (try clear E); first | assumption | omega | rfl | (simp; done) | (simp_all; done) | (simp [List.take_add_one, *]; done) | grind [List.take_add_one])⟩, by omega⟩
  · replace hc_3 := of_decide_eq_false hc_3
    refine WP_exit ?_
    refine T_x ?_
    refine T_x ?_
    refine B_x ?_
    refine T_n ?_
    refine WP_seq ?_
    refine WP_region ?_
    refine S_v E rfl (R_move E rfl) rfl ?_
    clear E a; intro a E
    refine S_v E rfl (R_assign E rfl) rfl ?_
    clear E a; intro a E
    refine WL_nil ?_
    refine T_n ?_
    refine WP_ret ?_
    replace S := S.reM (L' := (Sl.encS (keyL l0))) (congrArg Sl.encS (show keyL (l0.take k) = keyL l0 by (rw [List.take_of_length_le (by omega)])))
    exact F_ret1 E Try.results91 rfl ⟨_, rfl, M_2, _, hM_2, ⟨_, rfl, rfl⟩, S⟩

set_option maxRecDepth 100000 in
set_option maxHeartbeats 4000000 in
theorem lo_WithoutNth {M : Hp} {v0 v1 : Value} {l0 l1 : List Int} (h0 : RdI M v0 l0) (h1 : RdI M v1 l1)(hb : l0.length ≤ 1000000000000) :
    Pu Try.prog (.func (.func 78) #[] #[]) M [v0, v1] (fun r M' => RdI M' r (wnthL l0 l1)) := by
  refine Pu_enter Try.func78 rfl Try.ntmps78 rfl Try.call78 ?_
  intro a w M1 H hM1 S E
  replace h0 := h0.le hM1
  replace h1 := h1.le hM1
  have b0 := h0.bound
  have b1 := h1.bound
  refine WP_seq ?_
  refine WP_region ?_
  refine S_v E rfl (R_assign E rfl) rfl ?_
  clear E a; intro a E
  refine WL_nil ?_
  refine T_n ?_
  refine WP_seq ?_
  refine WP_region ?_
  refine S_v E rfl (R_move E rfl) rfl ?_
  clear E a; intro a E
  refine S_x (X_sp (p := []) E S rfl rfl rfl (lo_Keyify h1) (Hp.le.refl _) ?_)
  clear E a S; rintro a _ w M_1 _ hM_1 ⟨v_2, rfl, rfl⟩ S E
  replace S : St w M_1 (OwnS v_2 (keyL l1) :: _) := S
  replace h0 := h0.le hM_1
  replace h1 := h1.le hM_1
  refine S_v E rfl (R_assign E rfl) rfl ?_
  clear E a; intro a E
  refine WL_nil ?_
  refine T_n ?_
  refine WP_seq ?_
  refine WP_region ?_
  refine S_v E rfl (R_move E rfl) rfl ?_
  clear E a; intro a E
  refine S_v E rfl (R_lenV E rfl T22 h0.len) rfl ?_
  clear E a; intro a E
  refine S_x (X_make0 (k := (l0).length) E S rfl rfl rfl T22 rfl (by omega) (by omega) (by omega) ?_)
  clear E a S; rintro a w v_3 E S
  replace S := S.made0
  refine S_v E rfl (R_assign E rfl) rfl ?_
  clear E a; intro a E
  refine WL_nil ?_
  refine T_n ?_
  refine WP_seq ?_
  refine WP_seq ?_
  refine WP_region ?_
  refine S_v E rfl (R_move E rfl) rfl ?_
  clear E a; intro a E
  refine S_v E rfl (R_lenV E rfl T22 h0.len) rfl ?_
  clear E a; intro a E
  refine S_v E rfl (R_move E rfl) rfl ?_
  clear E a; intro a E
  refine WL_nil ?_
  refine T_n ?_
  refine WP_block ?_
  replace S := S.re1 (l' := wnthL (l0.take 0) (keyL l1)) (by (unfold wnthL; first | (simp [filtI]; done) | (rw [filtI_succ (by assumption)]; simp_all; done) | (rw [filtI_succ (List.getElem?_eq_getElem (show k < l0.length by omega))]; simp_all; done)))
  refine WP_loop (γ := Nat) (fun (k : Nat) a w => ∃ (M_4 : Hp) (u6 : Value), Hp.le M_1 M_4 ∧ St w M_4 (OwnI 3 u6 (wnthL (l0.take k) (keyL l1)) :: OwnS v_2 (keyL l1) :: H) ∧ Env a 37 [] [(0, v0), (5, .map (some v_2)), (6, u6), (16, .int .i64 (((l0).length : Nat) : Int)), (17, .int .i64 ((k : Nat) : Int))] ∧ (k ≤ (l0).length)) (fun k => ((l0).length) - k) 0 ⟨M_1, _, Hp.le.refl _, S, E.keep ⟨rfl, rfl, rfl, rfl, rfl, trivial⟩, by ((try clear S); (try clear E); first | assumption | omega | rfl | (simp; done) | (simp_all; done) | (simp [List.take_add_one, *]; done) | grind [List.take_add_one])⟩ ?_
  try clear E
  try clear S
  try clear a
  try clear w
  rintro k a w ⟨M_4, u6, hM_4, S, E, hL0_0⟩
  replace h0 := h0.le hM_4
  replace h1 := h1.le hM_4
  have wl := filtI_len (fun _ i => !decide (i ∈ keyL l1)) (l0.take k) 0
  refine WP_seq ?_
  refine WP_region ?_
  refine S_v E rfl (R_lss E rfl rfl) rfl ?_
  clear E a; intro a E
  refine WL_nil ?_
  refine T_n ?_
  refine WP_seq ?_
  refine WP_cond E rfl (fun hc_5 => ?_) (fun hc_5 => ?_)
  · replace hc_5 := of_decide_eq_true hc_5
    refine WP_skip ?_
    refine T_n ?_
    refine WP_seq ?_
    refine WP_block ?_
    refine WP_seq ?_
    refine WP_region ?_
    refine S_v E rfl (R_move E rfl) rfl ?_
    clear E a; intro a E
    refine S_v E rfl (R_assign E rfl) rfl ?_
    clear E a; intro a E
    refine WL_nil ?_
    refine T_n ?_
    refine WP_seq ?_
    refine WP_region ?_
    refine S_v E rfl (R_move E rfl) rfl ?_
    clear E a; intro a E
    refine S_v E rfl (R_move E rfl) rfl ?_
    clear E a; intro a E
    replace S := S.front1
    refine S_x (X_lookupS E S rfl MT93 rfl rfl ?_)
    clear E a S; rintro a w E S
    replace S : St w M_4 (OwnS v_2 (keyL l1) :: _) := S
    refine S_v E rfl (R_move E rfl) rfl ?_
    clear E a; intro a E
    refine S_v E rfl (R_extract E rfl rfl) rfl ?_
    clear E a; intro a E
    refine S_v E rfl (R_extract E rfl rfl) rfl ?_
    clear E a; intro a E
    refine S_x (X_alloc (cs := #[]) E S rfl Try.zeroValue98 rfl ?_)
    clear E a S; rintro a w b_6 E S
    refine S_x0 (X_storeG (us := []) E S rfl rfl (Try.sizeOf98 _) rfl (by intro u hu; cases hu) ?_)
    clear E a S; rintro a w E S
    replace S : St w M_4 (blk b_6 (.cells #[] 98) :: _) := S
    have S0 := S; clear S
    obtain ⟨M_7, hM_7, hb_8, S⟩ := S0.freezeB
    clear S0
    replace h0 := h0.le hM_7
    replace h1 := h1.le hM_7
    refine S_v E rfl (R_assign E rfl) rfl ?_
    clear E a; intro a E
    refine WL_nil ?_
    refine T_n ?_
    refine WP_seq ?_
    refine WP_region ?_
    refine S_v E rfl (R_move E rfl) rfl ?_
    clear E a; intro a E
    refine S_v E rfl (R_not E rfl) rfl ?_
    clear E a; intro a E
    refine WL_nil ?_
    refine T_n ?_
    refine WP_cond E rfl (fun hc_9 => ?_) (fun hc_9 => ?_)
    · refine WP_region ?_
      refine S_v E rfl (R_move E rfl) rfl ?_
      clear E a; intro a E
      refine S_v E rfl (R_move E rfl) rfl ?_
      clear E a; intro a E
      refine S_v E rfl (R_move E rfl) rfl ?_
      clear E a; intro a E
      obtain ⟨x_10, hx_10⟩ : ∃ x, (l0)[k]? = some x := ⟨_, List.getElem?_eq_getElem (by first | omega | (simp; done) | (simp; omega) | (simp_all; omega))⟩
      obtain ⟨p_11, hp_11, qp_11⟩ := h0.at hx_10
      refine S_v E rfl (R_idx E rfl rfl T22 hp_11 rfl) rfl ?_
      clear E a; intro a E
      refine S_v E rfl (R_loadM E rfl Try.isAgg3 S.imm qp_11) rfl ?_
      clear E a; intro a E
      refine S_x (X_buildI (ys := [x_10]) E S rfl T22 rfl rfl rfl ?_)
      clear E a S; rintro a w v_12 E S
      replace S := S.front2
      replace S := S.front1
      refine S_x (X_appendB (xs := wnthL (l0.take k) (keyL l1)) (ys := [x_10]) E S rfl rfl rfl T22 (by (unfold wnthL; simp at wl ⊢; omega)) ?_)
      clear E a S; rintro a w v_13 E S
      refine S_v E rfl (R_assign E rfl) rfl ?_
      clear E a; intro a E
      refine WL_nil ?_
      refine B_n ?_
      refine T_n ?_
      refine WP_region ?_
      refine S_v E rfl (R_addx (m := ((k + 1 : Nat) : Int)) E rfl rfl (by omega) (by omega)) rfl ?_
      clear E a; intro a E
      refine S_v E rfl (R_move E rfl) rfl ?_
      clear E a; intro a E
      refine WL_nil ?_
      refine T_n ?_
      replace S := S.re1 (l' := wnthL (l0.take (k + 1)) (keyL l1)) (by (unfold wnthL; first | (simp [filtI]; done) | (rw [filtI_succ (by assumption)]; simp_all; done) | (rw [filtI_succ (List.getElem?_eq_getElem (show k < l0.length by omega))]; simp_all; done)))
      exact ⟨k + 1, ⟨M_7, _, (hM_4.trans hM_7), S, E.keep ⟨rfl, rfl, rfl, rfl, rfl, trivial⟩, by ((try clear S); (try clear E); first | assumption | omega | rfl | (simp; done) | (simp_all; done) | (simp [List.take_add_one, *]; done) | grind [List.take_add_one])⟩, by omega⟩
    · refine WP_skip ?_
      refine B_n ?_
      refine T_n ?_
      refine WP_region ?_
      refine S_v E rfl (R_addx (m := ((k + 1 : Nat) : Int)) E rfl rfl (by omega) (by omega)) rfl ?_
      clear E a; intro a E
      refine S_v E rfl (R_move E rfl) rfl ?_
      clear E a; intro a E
      refine WL_nil ?_
      refine T_n ?_
      replace S := S.front1
      replace S := S.re1 (l' := wnthL (l0.take (k + 1)) (keyL l1)) (by (unfold wnthL; first | (simp [filtI]; done) | (rw [filtI_succ (by assumption)]; simp_all; done) | (rw [filtI_succ (List.getElem?_eq_getElem (show k < l0.length by omega))]; simp_all; done)))
      exact ⟨k + 1, ⟨M_7, _, (hM_4.trans hM_7), S, E.keep ⟨rfl, rfl, rfl, rfl, rfl, trivial⟩, by ((try clear S); (try clear E); first | assumption | omega | rfl | (simp; done) | (simp_all; done) | (simp [List.take_add_one, *]; done) | grind [List.take_add_one])⟩, by omega⟩
  · replace hc_5 := of_decide_eq_false hc_5
    refine WP_exit ?_
    refine T_x ?_
    refine T_x ?_
    refine B_x ?_
    refine T_n ?_
    refine WP_seq ?_
    refine WP_region ?_
    refine S_v E rfl (R_move E rfl) rfl ?_
    clear E a; intro a E
    refine S_v E rfl (R_assign E rfl) rfl ?_
    clear E a; intro a E
    refine WL_nil ?_
    refine T_n ?_
    refine WP_ret ?_
    have S0 := S; clear S
    obtain ⟨M_14, hM_14, hz_15, S⟩ := S0.freezeI (by (have wl := filtI_len (fun _ i => !decide (i ∈ keyL l1)) (l0.take k) 0; unfold wnthL; simp at wl ⊢; omega))
    clear S0
    replace h0 := h0.le hM_14
    replace h1 := h1.le hM_14
    exact F_ret1 E Try.results78 rfl ⟨_, rfl, M_14, (hM_1.trans (hM_4.trans hM_14)), (by rw [show (wnthL l0 l1) = (wnthL (l0.take k) (keyL l1)) from by (rw [List.take_of_length_le (by omega)]; unfold wnthL; simp only [mem_keyL])]; exact hz_15), S.drop⟩

set_option maxRecDepth 100000 in
set_option maxHeartbeats 4000000 in
theorem impl_WithoutNth {M : Hp} {v0 v1 : Value} {l0 l1 : List Int} (h0 : RdI M v0 l0) (h1 : RdI M v1 l1)(hb : l0.length ≤ 1000000000000) :
    Pu Try.prog (.func (.func 37) #[] #[]) M [v0, v1] (fun r M' => RdI M' r (wnthL l0 l1)) := by
  refine Pu_enter Try.func37 rfl Try.ntmps37 rfl Try.call37 ?_
  intro a w M1 H hM1 S E
  replace h0 := h0.le hM1
  replace h1 := h1.le hM1
  have b0 := h0.bound
  have b1 := h1.bound
  refine WP_seq ?_
  refine WP_region ?_
  refine S_v E rfl (R_assign E rfl) rfl ?_
  clear E a; intro a E
  refine WL_nil ?_
  refine T_n ?_
  refine WP_seq ?_
  refine WP_region ?_
  refine S_v E rfl (R_move E rfl) rfl ?_
  clear E a; intro a E
  refine S_v E rfl (R_move E rfl) rfl ?_
  clear E a; intro a E
  refine S_x (X_pu E S rfl rfl rfl (lo_WithoutNth h0 h1 (by (first | omega | (simp; omega) | (simp; done) | (simp_all; omega) | grind))) (Hp.le.refl _) ?_)
  clear E a S; rintro a v_2 w M_1 hM_1 hv_2 S E
  replace h0 := h0.le hM_1
  replace h1 := h1.le hM_1
  refine S_v E rfl (R_assign E rfl) rfl ?_
  clear E a; intro a E
  refine WL_nil ?_
  refine T_n ?_
  refine WP_ret ?_
  exact F_ret1 E Try.results37 rfl ⟨_, rfl, M_1, hM_1, hv_2, S⟩

set_option maxRecDepth 100000 in
set_option maxHeartbeats 4000000 in
theorem laws_few {M : Hp} {v0 : Value} {l0 : List (List Int)} (h0 : RdII M v0 l0) :
    Pu Try.prog (.func (.func 9) #[] #[]) M [v0] (fun r M' => r = .bool (decide (∀ x ∈ l0, x.length ≤ 300))) := by
  refine Pu_enter Try.func9 rfl Try.ntmps9 rfl Try.call9 ?_
  intro a w M1 H hM1 S E
  replace h0 := h0.le hM1
  have b0 := h0.bound
  refine WP_seq ?_
  refine WP_region ?_
  refine S_v E rfl (R_assign E rfl) rfl ?_
  clear E a; intro a E
  refine WL_nil ?_
  refine T_n ?_
  refine WP_seq ?_
  refine WP_seq ?_
  refine WP_region ?_
  refine S_v E rfl (R_move E rfl) rfl ?_
  clear E a; intro a E
  refine S_v E rfl (R_lenV E rfl T54 h0.len) rfl ?_
  clear E a; intro a E
  refine S_v E rfl (R_move E rfl) rfl ?_
  clear E a; intro a E
  refine WL_nil ?_
  refine T_n ?_
  refine WP_block ?_
  refine WP_loop (γ := Nat) (fun (k : Nat) a w => ∃ (M_1 : Hp), Hp.le M1 M_1 ∧ St w M_1 (H) ∧ Env a 15 [] [(5, v0), (6, .int .i64 (((l0).length : Nat) : Int)), (7, .int .i64 ((k : Nat) : Int))] ∧ (k ≤ (l0).length) ∧ (∀ x ∈ l0.take k, x.length ≤ 300)) (fun k => ((l0).length) - k) 0 ⟨M1, Hp.le.refl _, S, E.keep ⟨rfl, rfl, rfl, trivial⟩, by ((try clear S); (try clear E); first | assumption | omega | rfl | (simp; done) | (simp_all; done) | (simp [List.take_add_one, *]; done) | grind [List.take_add_one]), by ((try clear S); (try clear E); first | assumption | omega | rfl | (simp; done) | (simp_all; done) | (simp [List.take_add_one, *]; done) | grind [List.take_add_one])⟩ ?_
  try clear E
  try clear S
  try clear a
  try clear w
  rintro k a w ⟨M_1, hM_1, S, E, hL0_0, hL0_1⟩
  replace h0 := h0.le hM_1
  refine WP_seq ?_
  refine WP_region ?_
  refine S_v E rfl (R_lss E rfl rfl) rfl ?_
  clear E a; intro a E
  refine WL_nil ?_
  refine T_n ?_
  refine WP_seq ?_
  refine WP_cond E rfl (fun hc_2 => ?_) (fun hc_2 => ?_)
  · replace hc_2 := of_decide_eq_true hc_2
    refine WP_skip ?_
    refine T_n ?_
    refine WP_seq ?_
    refine WP_block ?_
    refine WP_seq ?_
    refine WP_region ?_
    obtain ⟨x_3, hx_3⟩ : ∃ x, (l0)[k]? = some x := ⟨_, List.getElem?_eq_getElem (by first | omega | (simp; done) | (simp; omega) | (simp_all; omega))⟩
    obtain ⟨p_4, u_5, hp_4, qp_4, hu_5⟩ := h0.at hx_3
    have bu_5 := hu_5.bound
    refine S_v E rfl (R_idx E rfl rfl T54 hp_4 rfl) rfl ?_
    clear E a; intro a E
    refine S_v E rfl (R_loadM E rfl Try.isAgg22 S.imm qp_4) rfl ?_
    clear E a; intro a E
    refine S_v E rfl (R_assign E rfl) rfl ?_
    clear E a; intro a E
    refine WL_nil ?_
    refine T_n ?_
    refine WP_seq ?_
    refine WP_region ?_
    refine S_v E rfl (R_move E rfl) rfl ?_
    clear E a; intro a E
    refine S_v E rfl (R_lenV E rfl T22 hu_5.len) rfl ?_
    clear E a; intro a E
    refine S_v E rfl (R_gtr E rfl rfl) rfl ?_
    clear E a; intro a E
    refine WL_nil ?_
    refine T_n ?_
    refine WP_cond E rfl (fun hc_6 => ?_) (fun hc_6 => ?_)
    · replace hc_6 := of_decide_eq_true hc_6
      refine WP_seq ?_
      refine WP_region ?_
      refine S_v E rfl (R_assign E rfl) rfl ?_
      clear E a; intro a E
      refine WL_nil ?_
      refine T_n ?_
      refine WP_ret ?_
      refine B_r ?_
      refine T_r ?_
      refine T_r ?_
      refine B_r ?_
      refine T_r ?_
      exact F_ret1 E Try.results9 rfl ⟨_, rfl, M_1, hM_1, (bF (by ((try clear S); (try clear E); first | assumption | omega | rfl | (simp; done) | (simp_all; done) | (simp [List.take_add_one, *]; done) | grind [List.take_add_one]))), S⟩
    · replace hc_6 := of_decide_eq_false hc_6
      refine WP_skip ?_
      refine B_n ?_
      refine T_n ?_
      refine WP_region ?_
      refine S_v E rfl (R_addx (m := ((k + 1 : Nat) : Int)) E rfl rfl (by omega) (by omega)) rfl ?_
      clear E a; intro a E
      refine S_v E rfl (R_move E rfl) rfl ?_
      clear E a; intro a E
      refine WL_nil ?_
      refine T_n ?_
      exact ⟨k + 1, ⟨M_1, hM_1, S, E.keep ⟨rfl, rfl, rfl, trivial⟩, by ((try clear S); (try clear E); first | assumption | omega | rfl | (simp; done) | (simp_all; done) | (simp [List.take_add_one, *]; done) | grind [List.take_add_one]), by ((try clear S); (try clear E); first | assumption | omega | rfl | (simp; done) | (simp_all; done) | (simp [List.take_add_one, *]; done) | grind [List.take_add_one])⟩, by omega⟩
  · replace hc_2 := of_decide_eq_false hc_2
    refine WP_exit ?_
    refine T_x ?_
    refine T_x ?_
    refine B_x ?_
    refine T_n ?_
    refine WP_seq ?_
    refine WP_region ?_
    refine S_v E rfl (R_assign E rfl) rfl ?_
    clear E a; intro a E
    refine WL_nil ?_
    refine T_n ?_
    refine WP_ret ?_
    exact F_ret1 E Try.results9 rfl ⟨_, rfl, M_1, hM_1, (bT (by ((try clear S); (try clear E); first | assumption | omega | rfl | (simp; done) | (simp_all; done) | (simp [List.take_add_one, *]; done) | grind [List.take_add_one]))), S⟩

set_option maxRecDepth 100000 in
set_option maxHeartbeats 4000000 in
theorem laws_places {M : Hp} {n0 : Nat} (hn : n0 ≤ 1000000) {v1 : Value} {l1 : List Int} (h1 : RdI M v1 l1) :
    Pu Try.prog (.func (.func 38) #[] #[]) M [.int .i64 ((n0 : Nat) : Int), v1] (fun r M' => RdS 1 RB1 M' r (plB n0 l1)) := by
  refine Pu_enter Try.func38 rfl Try.ntmps38 rfl Try.call38 ?_
  intro a w M1 H hM1 S E
  replace h1 := h1.le hM1
  have b1 := h1.bound
  refine WP_seq ?_
  refine WP_region ?_
  refine S_v E rfl (R_assign E rfl) rfl ?_
  clear E a; intro a E
  refine WL_nil ?_
  refine T_n ?_
  refine WP_seq ?_
  refine WP_region ?_
  refine S_v E rfl (R_move E rfl) rfl ?_
  clear E a; intro a E
  refine S_x (X_makeN (k := n0) E S rfl rfl rfl T60 (by omega) (by omega) (by omega) (by omega) ?_)
  clear E a S; rintro a w v_1 E S
  have S0 := S; clear S
  obtain ⟨xs_2, hr_3, S⟩ := St.madeR (R := RB1) (cs := [.bool false]) (x0 := (false : Bool)) S0 (by decide) rfl (fun u hu => one_RB1 M1 _ (false : Bool) rfl u hu) rfl
  clear S0
  refine S_v E rfl (R_assign E rfl) rfl ?_
  clear E a; intro a E
  refine WL_nil ?_
  refine T_n ?_
  refine WP_seq ?_
  refine WP_seq ?_
  refine WP_region ?_
  refine S_v E rfl (R_move E rfl) rfl ?_
  clear E a; intro a E
  refine S_v E rfl (R_lenV E rfl T22 h1.len) rfl ?_
  clear E a; intro a E
  refine S_v E rfl (R_move E rfl) rfl ?_
  clear E a; intro a E
  refine WL_nil ?_
  refine T_n ?_
  refine WP_block ?_
  have hre : (List.replicate n0 (false : Bool)) = plB n0 (l1.take 0) := by first | exact plB_zero _ | exact plB_in (by assumption) (by omega) (by omega) | exact plB_out (by assumption) (by omega)
  replace S := S.reR hre
  replace hr_3 := hr_3.eq hre
  clear hre
  refine WP_loop (γ := Nat) (fun (k : Nat) a w => ∃ (M_4 : Hp) (xs5 : List Value), Hp.le M1 M_4 ∧ St w M_4 (OwnC 4 1 v_1 (plB n0 (l1.take k)).length xs5 :: H) ∧ Env a 28 [] [(0, .int .i64 ((n0 : Nat) : Int)), (5, v_1), (10, v1), (11, .int .i64 (((l1).length : Nat) : Int)), (12, .int .i64 ((k : Nat) : Int))] ∧ (k ≤ (l1).length) ∧ RowsR RB1 1 M_4 (plB n0 (l1.take k)) xs5) (fun k => ((l1).length) - k) 0 ⟨M1, _, Hp.le.refl _, S, E.keep ⟨rfl, rfl, rfl, rfl, rfl, trivial⟩, by ((try clear S); (try clear E); first | assumption | omega | rfl | (simp; done) | (simp_all; done) | (simp [List.take_add_one, *]; done) | grind [List.take_add_one]), hr_3⟩ ?_
  try clear E
  try clear S
  try clear a
  try clear w
  rintro k a w ⟨M_4, xs5, hM_4, S, E, hL0_0, hr5⟩
  replace h1 := h1.le hM_4
  refine WP_seq ?_
  refine WP_region ?_
  refine S_v E rfl (R_lss E rfl rfl) rfl ?_
  clear E a; intro a E
  refine WL_nil ?_
  refine T_n ?_
  refine WP_seq ?_
  refine WP_cond E rfl (fun hc_5 => ?_) (fun hc_5 => ?_)
  · replace hc_5 := of_decide_eq_true hc_5
    refine WP_skip ?_
    refine T_n ?_
    refine WP_seq ?_
    refine WP_block ?_
    refine WP_seq ?_
    refine WP_region ?_
    obtain ⟨x_6, hx_6⟩ : ∃ x, (l1)[k]? = some x := ⟨_, List.getElem?_eq_getElem (by (first | omega | (simp [plB_len]; omega)))⟩
    obtain ⟨p_7, hp_7, qp_7⟩ := h1.at hx_6
    refine S_v E rfl (R_idx E rfl rfl T22 hp_7 rfl) rfl ?_
    clear E a; intro a E
    refine S_v E rfl (R_loadM E rfl Try.isAgg3 S.imm qp_7) rfl ?_
    clear E a; intro a E
    refine S_v E rfl (R_assign E rfl) rfl ?_
    clear E a; intro a E
    refine WL_nil ?_
    refine T_n ?_
    refine WP_seq ?_
    refine WP_region ?_
    refine S_v E rfl (R_move E rfl) rfl ?_
    clear E a; intro a E
    refine S_v E rfl (R_geq E rfl rfl) rfl ?_
    clear E a; intro a E
    refine S_v E rfl (R_move E rfl) rfl ?_
    clear E a; intro a E
    refine split_bool (decide (0 ≤ x_6)) (fun hc_8 => ?_) (fun hc_8 => ?_)
    · replace E := E.val (t := 17) rfl hc_8
      replace E := E.val (t := 18) rfl hc_8
      replace hc_8 := of_decide_eq_true hc_8
      refine WL_guard_yes E rfl rfl ?_
      refine S_v E rfl (R_move E rfl) rfl ?_
      clear E a; intro a E
      refine WL_guard_yes E rfl rfl ?_
      refine S_v E rfl (R_move E rfl) rfl ?_
      clear E a; intro a E
      refine WL_guard_yes E rfl rfl ?_
      refine S_v E rfl (R_lss E rfl rfl) rfl ?_
      clear E a; intro a E
      refine S_v E rfl (R_pickT E rfl rfl) rfl ?_
      clear E a; intro a E
      refine WL_nil ?_
      refine T_n ?_
      refine WP_cond E rfl (fun hc_9 => ?_) (fun hc_9 => ?_)
      · replace hc_9 := of_decide_eq_true hc_9
        refine WP_region ?_
        refine S_v E rfl (R_move E rfl) rfl ?_
        clear E a; intro a E
        refine S_v E rfl (R_move E rfl) rfl ?_
        clear E a; intro a E
        obtain ⟨p_10, hp_10⟩ := S.ptrC (k := (x_6).toNat) (by (first | omega | (simp [plB_len]; omega)))
        refine S_v E rfl (R_idx E rfl rfl T60 hp_10 (by omega)) rfl ?_
        clear E a; intro a E
        refine S_x0 (X_storeC E S rfl rfl (Try.sizeOf4 _) rfl hp_10 ?_)
        clear E a S; rintro a w E S
        have hr_12 := RowsRB.set (k := (x_6).toNat) (b := true) hr5
        obtain ⟨xs_11, hxs_⟩ : ∃ z, z = (xs5).set ((x_6).toNat) (.bool true) := ⟨_, rfl⟩
        rw [← hxs_] at S hr_12
        clear hxs_
        replace S := S.reLen (m' := ((plB n0 (l1.take k)).set ((x_6).toNat) true).length) (by rw [List.length_set])
        refine WL_nil ?_
        refine B_n ?_
        refine T_n ?_
        refine WP_region ?_
        refine S_v E rfl (R_addx (m := ((k + 1 : Nat) : Int)) E rfl rfl (by omega) (by omega)) rfl ?_
        clear E a; intro a E
        refine S_v E rfl (R_move E rfl) rfl ?_
        clear E a; intro a E
        refine WL_nil ?_
        refine T_n ?_
        have hre : (plB n0 (l1.take k)).set ((x_6).toNat) true = plB n0 (l1.take (k + 1)) := by first | exact plB_zero _ | exact plB_in (by assumption) (by omega) (by omega) | exact plB_out (by assumption) (by omega)
        replace S := S.reR hre
        replace hr_12 := hr_12.eq hre
        clear hre
        exact ⟨k + 1, ⟨M_4, _, hM_4, S, E.keep ⟨rfl, rfl, rfl, rfl, rfl, trivial⟩, by ((try clear S); (try clear E); first | assumption | omega | rfl | (simp; done) | (simp_all; done) | (simp [List.take_add_one, *]; done) | grind [List.take_add_one]), hr_12⟩, by omega⟩
      · replace hc_9 := of_decide_eq_false hc_9
        refine WP_skip ?_
        refine B_n ?_
        refine T_n ?_
        refine WP_region ?_
        refine S_v E rfl (R_addx (m := ((k + 1 : Nat) : Int)) E rfl rfl (by omega) (by omega)) rfl ?_
        clear E a; intro a E
        refine S_v E rfl (R_move E rfl) rfl ?_
        clear E a; intro a E
        refine WL_nil ?_
        refine T_n ?_
        have hre : plB n0 (l1.take k) = plB n0 (l1.take (k + 1)) := by first | exact plB_zero _ | exact plB_in (by assumption) (by omega) (by omega) | exact plB_out (by assumption) (by omega)
        replace S := S.reR hre
        replace hr5 := hr5.eq hre
        clear hre
        exact ⟨k + 1, ⟨M_4, _, hM_4, S, E.keep ⟨rfl, rfl, rfl, rfl, rfl, trivial⟩, by ((try clear S); (try clear E); first | assumption | omega | rfl | (simp; done) | (simp_all; done) | (simp [List.take_add_one, *]; done) | grind [List.take_add_one]), hr5⟩, by omega⟩
    · replace E := E.val (t := 17) rfl hc_8
      replace E := E.val (t := 18) rfl hc_8
      replace hc_8 := of_decide_eq_false hc_8
      refine WL_guard_no E rfl rfl rfl rfl fun a E => ?_
      refine WL_guard_no E rfl rfl rfl rfl fun a E => ?_
      refine WL_guard_no E rfl rfl rfl rfl fun a E => ?_
      refine S_v E rfl (R_pickF E rfl rfl) rfl ?_
      clear E a; intro a E
      refine WL_nil ?_
      refine T_n ?_
      refine WP_condF E rfl rfl ?_
      refine WP_skip ?_
      refine B_n ?_
      refine T_n ?_
      refine WP_region ?_
      refine S_v E rfl (R_addx (m := ((k + 1 : Nat) : Int)) E rfl rfl (by omega) (by omega)) rfl ?_
      clear E a; intro a E
      refine S_v E rfl (R_move E rfl) rfl ?_
      clear E a; intro a E
      refine WL_nil ?_
      refine T_n ?_
      have hre : plB n0 (l1.take k) = plB n0 (l1.take (k + 1)) := by first | exact plB_zero _ | exact plB_in (by assumption) (by omega) (by omega) | exact plB_out (by assumption) (by omega)
      replace S := S.reR hre
      replace hr5 := hr5.eq hre
      clear hre
      exact ⟨k + 1, ⟨M_4, _, hM_4, S, E.keep ⟨rfl, rfl, rfl, rfl, rfl, trivial⟩, by ((try clear S); (try clear E); first | assumption | omega | rfl | (simp; done) | (simp_all; done) | (simp [List.take_add_one, *]; done) | grind [List.take_add_one]), hr5⟩, by omega⟩
  · replace hc_5 := of_decide_eq_false hc_5
    refine WP_exit ?_
    refine T_x ?_
    refine T_x ?_
    refine B_x ?_
    refine T_n ?_
    refine WP_seq ?_
    refine WP_region ?_
    refine S_v E rfl (R_move E rfl) rfl ?_
    clear E a; intro a E
    refine S_v E rfl (R_assign E rfl) rfl ?_
    clear E a; intro a E
    refine WL_nil ?_
    refine T_n ?_
    refine WP_ret ?_
    have S0 := S; clear S
    obtain ⟨M_13, hM_13, hz_14, S⟩ := S0.freezeR hr5 RB1_mono (by (simp [plB_len]; omega))
    clear S0
    replace h1 := h1.le hM_13
    exact F_ret1 E Try.results38 rfl ⟨_, rfl, M_13, (hM_4.trans hM_13), (by rw [show (plB n0 l1) = (plB n0 (l1.take k)) from by (rw [List.take_of_length_le (by omega)])]; exact hz_14), S⟩

set_option maxRecDepth 100000 in
set_option maxHeartbeats 4000000 in
theorem spec_IndexOf {M : Hp} {v0 : Value} {l0 : List Int} (h0 : RdI M v0 l0){x1 : Int} :
    Pu Try.prog (.func (.func 60) #[] #[]) M [v0, .int .i64 x1] (fun r M' => r = .int .i64 (fiI (eqx x1) l0)) := by
  refine Pu_enter Try.func60 rfl Try.ntmps60 rfl Try.call60 ?_
  intro a w M1 H hM1 S E
  replace h0 := h0.le hM1
  have b0 := h0.bound
  refine WP_seq ?_
  refine WP_region ?_
  refine S_v E rfl (R_assign E rfl) rfl ?_
  clear E a; intro a E
  refine WL_nil ?_
  refine T_n ?_
  refine WP_seq ?_
  refine WP_seq ?_
  refine WP_region ?_
  refine S_v E rfl (R_move E rfl) rfl ?_
  clear E a; intro a E
  refine S_v E rfl (R_lenV E rfl T22 h0.len) rfl ?_
  clear E a; intro a E
  refine S_v E rfl (R_move E rfl) rfl ?_
  clear E a; intro a E
  refine WL_nil ?_
  refine T_n ?_
  refine WP_block ?_
  refine WP_loop (γ := Nat) (fun (k : Nat) a w => ∃ (M_1 : Hp), Hp.le M1 M_1 ∧ St w M_1 (H) ∧ Env a 19 [] [(0, v0), (1, .int .i64 x1), (7, .int .i64 (((l0).length : Nat) : Int)), (8, .int .i64 ((k : Nat) : Int))] ∧ (k ≤ (l0).length) ∧ (∀ y ∈ l0.take k, eqx x1 y = false)) (fun k => ((l0).length) - k) 0 ⟨M1, Hp.le.refl _, S, E.keep ⟨rfl, rfl, rfl, rfl, trivial⟩, by ((try clear S); (try clear E); first | assumption | omega | rfl | (simp; done) | (simp_all; done) | (simp [List.take_add_one, *]; done) | grind [List.take_add_one]), (by simp)⟩ ?_
  try clear E
  try clear S
  try clear a
  try clear w
  rintro k a w ⟨M_1, hM_1, S, E, hL0_0, hL0_1⟩
  replace h0 := h0.le hM_1
  refine WP_seq ?_
  refine WP_region ?_
  refine S_v E rfl (R_lss E rfl rfl) rfl ?_
  clear E a; intro a E
  refine WL_nil ?_
  refine T_n ?_
  refine WP_seq ?_
  refine WP_cond E rfl (fun hc_2 => ?_) (fun hc_2 => ?_)
  · replace hc_2 := of_decide_eq_true hc_2
    refine WP_skip ?_
    refine T_n ?_
    refine WP_seq ?_
    refine WP_block ?_
    refine WP_seq ?_
    refine WP_region ?_
    refine S_v E rfl (R_move E rfl) rfl ?_
    clear E a; intro a E
    refine S_v E rfl (R_assign E rfl) rfl ?_
    clear E a; intro a E
    refine WL_nil ?_
    refine T_n ?_
    refine WP_seq ?_
    refine WP_region ?_
    refine S_v E rfl (R_move E rfl) rfl ?_
    clear E a; intro a E
    refine S_v E rfl (R_move E rfl) rfl ?_
    clear E a; intro a E
    obtain ⟨x_3, hx_3⟩ : ∃ x, (l0)[k]? = some x := ⟨_, List.getElem?_eq_getElem (by first | omega | (simp; done) | (simp; omega) | (simp_all; omega))⟩
    obtain ⟨p_4, hp_4, qp_4⟩ := h0.at hx_3
    refine S_v E rfl (R_idx E rfl rfl T22 hp_4 rfl) rfl ?_
    clear E a; intro a E
    refine S_v E rfl (R_loadM E rfl Try.isAgg3 S.imm qp_4) rfl ?_
    clear E a; intro a E
    refine S_v E rfl (R_move E rfl) rfl ?_
    clear E a; intro a E
    refine S_v E rfl (R_eql E rfl rfl) rfl ?_
    clear E a; intro a E
    refine WL_nil ?_
    refine T_n ?_
    refine WP_cond E rfl (fun hc_5 => ?_) (fun hc_5 => ?_)
    · replace hc_5 := of_decide_eq_true hc_5
      refine WP_seq ?_
      refine WP_region ?_
      refine S_v E rfl (R_move E rfl) rfl ?_
      clear E a; intro a E
      refine S_v E rfl (R_assign E rfl) rfl ?_
      clear E a; intro a E
      refine WL_nil ?_
      refine T_n ?_
      refine WP_ret ?_
      refine B_r ?_
      refine T_r ?_
      refine T_r ?_
      refine B_r ?_
      refine T_r ?_
      exact F_ret1 E Try.results60 rfl ⟨_, rfl, M_1, hM_1, (congrArg (Value.int .i64) (by (first | exact (fi_yes (f := eqx x1) hL0_1 (by assumption) (by first | exact eqx_yes (by assumption) | exact eqx_yes' (by assumption))).1 | exact ((fi_yes (f := eqx x1) hL0_1 (by assumption) (by first | exact eqx_yes (by assumption) | exact eqx_yes' (by assumption))).1).symm | exact (fi_no (f := eqx x1) hL0_1 (by omega)).1 | exact ((fi_no (f := eqx x1) hL0_1 (by omega)).1).symm))), S⟩
    · replace hc_5 := of_decide_eq_false hc_5
      refine WP_skip ?_
      refine B_n ?_
      refine T_n ?_
      refine WP_region ?_
      refine S_v E rfl (R_addx (m := ((k + 1 : Nat) : Int)) E rfl rfl (by omega) (by omega)) rfl ?_
      clear E a; intro a E
      refine S_v E rfl (R_move E rfl) rfl ?_
      clear E a; intro a E
      refine WL_nil ?_
      refine T_n ?_
      exact ⟨k + 1, ⟨M_1, hM_1, S, E.keep ⟨rfl, rfl, rfl, rfl, trivial⟩, by ((try clear S); (try clear E); first | assumption | omega | rfl | (simp; done) | (simp_all; done) | (simp [List.take_add_one, *]; done) | grind [List.take_add_one]), (by exact take_all (P := fun y => eqx x1 y = false) hL0_1 (by assumption) (by first | exact eqx_no (by assumption) | exact eqx_no' (by assumption)))⟩, by omega⟩
  · replace hc_2 := of_decide_eq_false hc_2
    refine WP_exit ?_
    refine T_x ?_
    refine T_x ?_
    refine B_x ?_
    refine T_n ?_
    refine WP_seq ?_
    refine WP_region ?_
    refine S_v E rfl (R_assign E rfl) rfl ?_
    clear E a; intro a E
    refine WL_nil ?_
    refine T_n ?_
    refine WP_ret ?_
    exact F_ret1 E Try.results60 rfl ⟨_, rfl, M_1, hM_1, (congrArg (Value.int .i64) (by (first | exact (fi_yes (f := eqx x1) hL0_1 (by assumption) (by first | exact eqx_yes (by assumption) | exact eqx_yes' (by assumption))).1 | exact ((fi_yes (f := eqx x1) hL0_1 (by assumption) (by first | exact eqx_yes (by assumption) | exact eqx_yes' (by assumption))).1).symm | exact (fi_no (f := eqx x1) hL0_1 (by omega)).1 | exact ((fi_no (f := eqx x1) hL0_1 (by omega)).1).symm))), S⟩

set_option maxRecDepth 100000 in
set_option maxHeartbeats 4000000 in
theorem spec_Contains {M : Hp} {v0 : Value} {l0 : List Int} (h0 : RdI M v0 l0){x1 : Int} :
    Pu Try.prog (.func (.func 79) #[] #[]) M [v0, .int .i64 x1] (fun r M' => r = .bool (decide (x1 ∈ l0))) := by
  refine Pu_enter Try.func79 rfl Try.ntmps79 rfl Try.call79 ?_
  intro a w M1 H hM1 S E
  replace h0 := h0.le hM1
  have b0 := h0.bound
  refine WP_seq ?_
  refine WP_region ?_
  refine S_v E rfl (R_assign E rfl) rfl ?_
  clear E a; intro a E
  refine WL_nil ?_
  refine T_n ?_
  refine WP_seq ?_
  refine WP_region ?_
  refine S_v E rfl (R_move E rfl) rfl ?_
  clear E a; intro a E
  refine S_v E rfl (R_move E rfl) rfl ?_
  clear E a; intro a E
  refine S_x (X_pu E S rfl rfl rfl (spec_IndexOf h0) (Hp.le.refl _) ?_)
  clear E a S; rintro a _ w M_1 hM_1 rfl S E
  replace h0 := h0.le hM_1
  refine S_v E rfl (R_geq E rfl rfl) rfl ?_
  clear E a; intro a E
  refine S_v E rfl (R_assign E rfl) rfl ?_
  clear E a; intro a E
  refine WL_nil ?_
  refine T_n ?_
  refine WP_ret ?_
  exact F_ret1 E Try.results79 rfl ⟨_, rfl, M_1, hM_1, (congrArg Value.bool (by (first | exact decide_eq_decide.1 (fi_mem l0 x1) | exact (decide_eq_decide.1 (fi_mem l0 x1)).symm | exact fi_mem l0 x1 | exact (fi_mem l0 x1).symm))), S⟩

set_option maxRecDepth 100000 in
set_option maxHeartbeats 4000000 in
theorem spec_WithoutNth {M : Hp} {v0 v1 : Value} {l0 l1 : List Int} (h0 : RdI M v0 l0) (h1 : RdI M v1 l1) (hb : l0.length ≤ 1000000000000) :
    Pu Try.prog (.func (.func 40) #[] #[]) M [v0, v1] (fun r M' => RdI M' r (wnthL l0 l1)) := by
  refine Pu_enter Try.func40 rfl Try.ntmps40 rfl Try.call40 ?_
  intro a w M1 H hM1 S E
  replace h0 := h0.le hM1
  replace h1 := h1.le hM1
  have b0 := h0.bound
  have b1 := h1.bound
  refine WP_seq ?_
  refine WP_region ?_
  refine S_v E rfl (R_assign E rfl) rfl ?_
  clear E a; intro a E
  refine WL_nil ?_
  refine T_n ?_
  refine WP_seq ?_
  refine WP_region ?_
  refine S_v E rfl (R_assign E rfl) rfl ?_
  clear E a; intro a E
  refine WL_nil ?_
  refine T_n ?_
  refine WP_seq ?_
  refine WP_seq ?_
  refine WP_region ?_
  refine S_v E rfl (R_move E rfl) rfl ?_
  clear E a; intro a E
  refine S_v E rfl (R_lenV E rfl T22 h0.len) rfl ?_
  clear E a; intro a E
  refine S_v E rfl (R_move E rfl) rfl ?_
  clear E a; intro a E
  refine WL_nil ?_
  refine T_n ?_
  refine WP_block ?_
  replace S := (S.ownNil (e := 3) (sz := 1)).made0
  replace S := S.re1 (l' := filtI (fun _ i => !decide (i ∈ l1)) 0 (l0.take 0)) (by first | (simp [filtI]; done) | (rw [filtI_succ (by assumption)]; simp_all; done))
  refine WP_loop (γ := Nat) (fun (k : Nat) a w => ∃ (M_2 : Hp) (u5 : Value), Hp.le M1 M_2 ∧ St w M_2 (OwnI 3 u5 (filtI (fun _ i => !decide (i ∈ l1)) 0 (l0.take k)) :: H) ∧ Env a 25 [] [(1, v1), (5, u5), (8, v0), (9, .int .i64 (((l0).length : Nat) : Int)), (10, .int .i64 ((k : Nat) : Int))] ∧ (k ≤ (l0).length)) (fun k => ((l0).length) - k) 0 ⟨M1, _, Hp.le.refl _, S, E.keep ⟨rfl, rfl, rfl, rfl, rfl, trivial⟩, by ((try clear S); (try clear E); first | assumption | omega | rfl | (simp; done) | (simp_all; done) | (simp [List.take_add_one, *]; done) | grind [List.take_add_one])⟩ ?_
  try clear E
  try clear S
  try clear a
  try clear w
  rintro k a w ⟨M_2, u5, hM_2, S, E, hL0_0⟩
  replace h0 := h0.le hM_2
  replace h1 := h1.le hM_2
  have hfl := filtI_len (fun _ i => !decide (i ∈ l1)) (l0.take k) 0; simp only [List.length_take] at hfl
  refine WP_seq ?_
  refine WP_region ?_
  refine S_v E rfl (R_lss E rfl rfl) rfl ?_
  clear E a; intro a E
  refine WL_nil ?_
  refine T_n ?_
  refine WP_seq ?_
  refine WP_cond E rfl (fun hc_3 => ?_) (fun hc_3 => ?_)
  · replace hc_3 := of_decide_eq_true hc_3
    refine WP_skip ?_
    refine T_n ?_
    refine WP_seq ?_
    refine WP_block ?_
    refine WP_seq ?_
    refine WP_region ?_
    refine S_v E rfl (R_move E rfl) rfl ?_
    clear E a; intro a E
    obtain ⟨x_4, hx_4⟩ : ∃ x, (l0)[k]? = some x := ⟨_, List.getElem?_eq_getElem (by first | omega | (simp; done) | (simp; omega) | (simp_all; omega))⟩
    obtain ⟨p_5, hp_5, qp_5⟩ := h0.at hx_4
    refine S_v E rfl (R_idx E rfl rfl T22 hp_5 rfl) rfl ?_
    clear E a; intro a E
    refine S_v E rfl (R_loadM E rfl Try.isAgg3 S.imm qp_5) rfl ?_
    clear E a; intro a E
    refine S_v E rfl (R_assign E rfl) rfl ?_
    clear E a; intro a E
    refine S_v E rfl (R_assign E rfl) rfl ?_
    clear E a; intro a E
    refine WL_nil ?_
    refine T_n ?_
    refine WP_seq ?_
    refine WP_region ?_
    refine S_v E rfl (R_move E rfl) rfl ?_
    clear E a; intro a E
    refine S_v E rfl (R_move E rfl) rfl ?_
    clear E a; intro a E
    refine S_x (X_pu E S rfl rfl rfl (spec_Contains h1) (Hp.le.refl _) ?_)
    clear E a S; rintro a _ w M_6 hM_6 rfl S E
    replace h0 := h0.le hM_6
    replace h1 := h1.le hM_6
    refine S_v E rfl (R_not E rfl) rfl ?_
    clear E a; intro a E
    refine WL_nil ?_
    refine T_n ?_
    refine WP_cond E rfl (fun hc_7 => ?_) (fun hc_7 => ?_)
    · refine WP_region ?_
      refine S_v E rfl (R_move E rfl) rfl ?_
      clear E a; intro a E
      refine S_v E rfl (R_move E rfl) rfl ?_
      clear E a; intro a E
      refine S_x (X_buildI (ys := [x_4]) E S rfl T22 rfl rfl rfl ?_)
      clear E a S; rintro a w v_8 E S
      replace S := S.front1
      replace S := S.front1
      refine S_x (X_appendB (xs := filtI (fun _ i => !decide (i ∈ l1)) 0 (l0.take k)) (ys := [x_4]) E S rfl rfl rfl T22 (by (simp only [List.length_cons, List.length_nil]; omega)) ?_)
      clear E a S; rintro a w v_9 E S
      refine S_v E rfl (R_assign E rfl) rfl ?_
      clear E a; intro a E
      refine WL_nil ?_
      refine B_n ?_
      refine T_n ?_
      refine WP_region ?_
      refine S_v E rfl (R_addx (m := ((k + 1 : Nat) : Int)) E rfl rfl (by omega) (by omega)) rfl ?_
      clear E a; intro a E
      refine S_v E rfl (R_move E rfl) rfl ?_
      clear E a; intro a E
      refine WL_nil ?_
      refine T_n ?_
      replace S := S.re1 (l' := filtI (fun _ i => !decide (i ∈ l1)) 0 (l0.take (k + 1))) (by first | (simp [filtI]; done) | (rw [filtI_succ (by assumption)]; simp_all; done))
      exact ⟨k + 1, ⟨M_6, _, (hM_2.trans hM_6), S, E.keep ⟨rfl, rfl, rfl, rfl, rfl, trivial⟩, by ((try clear S); (try clear E); first | assumption | omega | rfl | (simp; done) | (simp_all; done) | (simp [List.take_add_one, *]; done) | grind [List.take_add_one])⟩, by omega⟩
    · refine WP_skip ?_
      refine B_n ?_
      refine T_n ?_
      refine WP_region ?_
      refine S_v E rfl (R_addx (m := ((k + 1 : Nat) : Int)) E rfl rfl (by omega) (by omega)) rfl ?_
      clear E a; intro a E
      refine S_v E rfl (R_move E rfl) rfl ?_
      clear E a; intro a E
      refine WL_nil ?_
      refine T_n ?_
      replace S := S.re1 (l' := filtI (fun _ i => !decide (i ∈ l1)) 0 (l0.take (k + 1))) (by first | (simp [filtI]; done) | (rw [filtI_succ (by assumption)]; simp_all; done))
      exact ⟨k + 1, ⟨M_6, _, (hM_2.trans hM_6), S, E.keep ⟨rfl, rfl, rfl, rfl, rfl, trivial⟩, by ((try clear S); (try clear E); first | assumption | omega | rfl | (simp; done) | (simp_all; done) | (simp [List.take_add_one, *]; done) | grind [List.take_add_one])⟩, by omega⟩
  · replace hc_3 := of_decide_eq_false hc_3
    refine WP_exit ?_
    refine T_x ?_
    refine T_x ?_
    refine B_x ?_
    refine T_n ?_
    refine WP_seq ?_
    refine WP_region ?_
    refine S_v E rfl (R_move E rfl) rfl ?_
    clear E a; intro a E
    refine S_v E rfl (R_assign E rfl) rfl ?_
    clear E a; intro a E
    refine WL_nil ?_
    refine T_n ?_
    refine WP_ret ?_
    have S0 := S; clear S
    obtain ⟨M_10, hM_10, hz_11, S⟩ := S0.freezeI (by (have hfl := filtI_len (fun _ i => !decide (i ∈ l1)) (l0.take k) 0; simp only [List.length_take] at hfl; omega))
    clear S0
    replace h0 := h0.le hM_10
    replace h1 := h1.le hM_10
    exact F_ret1 E Try.results40 rfl ⟨_, rfl, M_10, (hM_2.trans hM_10), (by rw [show (wnthL l0 l1) = (filtI (fun _ i => !decide (i ∈ l1)) 0 (l0.take k)) from by (rw [List.take_of_length_le (by omega)]; first | done | rfl)]; exact hz_11), S⟩

set_option maxRecDepth 100000 in
set_option maxHeartbeats 4000000 in
theorem laws_eq {M : Hp} {v0 v1 : Value} {l0 l1 : List Int} (h0 : RdI M v0 l0) (h1 : RdI M v1 l1) :
    Pu Try.prog (.func (.func 39) #[] #[]) M [v0, v1] (fun r M' => r = .bool (decide (l0 = l1))) := by
  refine Pu_enter Try.func39 rfl Try.ntmps39 rfl Try.call39 ?_
  intro a w M1 H hM1 S E
  replace h0 := h0.le hM1
  replace h1 := h1.le hM1
  have b0 := h0.bound
  have b1 := h1.bound
  refine WP_seq ?_
  refine WP_region ?_
  refine S_v E rfl (R_assign E rfl) rfl ?_
  clear E a; intro a E
  refine WL_nil ?_
  refine T_n ?_
  refine WP_seq ?_
  refine WP_seq ?_
  refine WP_region ?_
  refine S_v E rfl (R_move E rfl) rfl ?_
  clear E a; intro a E
  refine S_v E rfl (R_lenV E rfl T22 h0.len) rfl ?_
  clear E a; intro a E
  refine S_v E rfl (R_move E rfl) rfl ?_
  clear E a; intro a E
  refine S_v E rfl (R_lenV E rfl T22 h1.len) rfl ?_
  clear E a; intro a E
  refine S_v E rfl (R_neq E rfl rfl) rfl ?_
  clear E a; intro a E
  refine WL_nil ?_
  refine T_n ?_
  refine WP_cond E rfl (fun hc_1 => ?_) (fun hc_1 => ?_)
  · replace hc_1 := of_decide_eq_true hc_1
    refine WP_seq ?_
    refine WP_region ?_
    refine S_v E rfl (R_assign E rfl) rfl ?_
    clear E a; intro a E
    refine WL_nil ?_
    refine T_n ?_
    refine WP_ret ?_
    refine T_r ?_
    exact F_ret1 E Try.results39 rfl ⟨_, rfl, M1, (Hp.le.refl _), (bF (by ((try clear S); (try clear E); first | assumption | omega | rfl | (simp; done) | (simp_all; done) | (simp [List.take_add_one, *]; done) | grind [List.take_add_one]))), S⟩
  · replace hc_1 := of_decide_eq_false hc_1
    refine WP_skip ?_
    refine T_n ?_
    refine WP_seq ?_
    refine WP_seq ?_
    refine WP_region ?_
    refine S_v E rfl (R_move E rfl) rfl ?_
    clear E a; intro a E
    refine S_v E rfl (R_lenV E rfl T22 h0.len) rfl ?_
    clear E a; intro a E
    refine S_v E rfl (R_move E rfl) rfl ?_
    clear E a; intro a E
    refine WL_nil ?_
    refine T_n ?_
    refine WP_block ?_
    refine WP_loop (γ := Nat) (fun (k : Nat) a w => ∃ (M_2 : Hp), Hp.le M1 M_2 ∧ St w M_2 (H) ∧ Env a 26 [] [(0, v0), (1, v1), (12, .int .i64 (((l0).length : Nat) : Int)), (13, .int .i64 ((k : Nat) : Int))] ∧ (k ≤ (l0).length) ∧ (l0.length = l1.length) ∧ (l0.take k = l1.take k)) (fun k => ((l0).length) - k) 0 ⟨M1, Hp.le.refl _, S, E.keep ⟨rfl, rfl, rfl, rfl, trivial⟩, by ((try clear S); (try clear E); first | assumption | omega | rfl | (simp; done) | (simp_all; done) | (simp [List.take_add_one, *]; done) | grind [List.take_add_one]), by ((try clear S); (try clear E); first | assumption | omega | rfl | (simp; done) | (simp_all; done) | (simp [List.take_add_one, *]; done) | grind [List.take_add_one]), by ((try clear S); (try clear E); first | assumption | omega | rfl | (simp; done) | (simp_all; done) | (simp [List.take_add_one, *]; done) | grind [List.take_add_one])⟩ ?_
    try clear E
    try clear S
    try clear a
    try clear w
    rintro k a w ⟨M_2, hM_2, S, E, hL0_0, hL0_1, hL0_2⟩
    replace h0 := h0.le hM_2
    replace h1 := h1.le hM_2
    refine WP_seq ?_
    refine WP_region ?_
    refine S_v E rfl (R_lss E rfl rfl) rfl ?_
    clear E a; intro a E
    refine WL_nil ?_
    refine T_n ?_
    refine WP_seq ?_
    refine WP_cond E rfl (fun hc_3 => ?_) (fun hc_3 => ?_)
    · replace hc_3 := of_decide_eq_true hc_3
      refine WP_skip ?_
      refine T_n ?_
      refine WP_seq ?_
      refine WP_block ?_
      refine WP_seq ?_
      refine WP_region ?_
      refine S_v E rfl (R_move E rfl) rfl ?_
      clear E a; intro a E
      refine S_v E rfl (R_assign E rfl) rfl ?_
      clear E a; intro a E
      refine WL_nil ?_
      refine T_n ?_
      refine WP_seq ?_
      replace S := S.mono_heap (w' := World.drew _) rfl
      refine WP_drawn (C := fun x w => agree M_2 w) (bf := (fun i => [])) [0, 1, 2, 3, 4, 5, 6, 7, 8] [0, 1, 2, 3, 4, 5, 6, 7, 8] Try.mixed (by kernel_rfl) (fun x hq => S.imm) ?_
      refine D_v E rfl rfl rfl (fun w hC => (R_move E rfl)) ?_
      clear E a; intro a E
      refine D_v E rfl rfl rfl (fun w hC => (R_move E rfl)) ?_
      clear E a; intro a E
      obtain ⟨x_4, hx_4⟩ : ∃ x, (l0)[k]? = some x := ⟨_, List.getElem?_eq_getElem (by first | omega | (simp; done) | (simp; omega) | (simp_all; omega))⟩
      obtain ⟨p_5, hp_5, qp_5⟩ := h0.at hx_4
      refine D_v E rfl rfl rfl (fun w hC => (R_idx E rfl rfl T22 hp_5 rfl)) ?_
      clear E a; intro a E
      refine D_v E rfl rfl rfl (fun w hC => (R_loadM E rfl Try.isAgg3 hC qp_5)) ?_
      clear E a; intro a E
      refine D_v E rfl rfl rfl (fun w hC => (R_move E rfl)) ?_
      clear E a; intro a E
      refine D_v E rfl rfl rfl (fun w hC => (R_move E rfl)) ?_
      clear E a; intro a E
      obtain ⟨x_6, hx_6⟩ : ∃ x, (l1)[k]? = some x := ⟨_, List.getElem?_eq_getElem (by first | omega | (simp; done) | (simp; omega) | (simp_all; omega))⟩
      obtain ⟨p_7, hp_7, qp_7⟩ := h1.at hx_6
      refine D_v E rfl rfl rfl (fun w hC => (R_idx E rfl rfl T22 hp_7 rfl)) ?_
      clear E a; intro a E
      refine D_v E rfl rfl rfl (fun w hC => (R_loadM E rfl Try.isAgg3 hC qp_7)) ?_
      clear E a; intro a E
      refine D_v E rfl rfl rfl (fun w hC => (R_neq E rfl rfl)) ?_
      clear E a; intro a E
      refine D_end (NoP_n ?_)
      refine T_n ?_
      refine WP_cond E rfl (fun hc_8 => ?_) (fun hc_8 => ?_)
      · replace hc_8 := of_decide_eq_true hc_8
        refine WP_seq ?_
        refine WP_region ?_
        refine S_v E rfl (R_assign E rfl) rfl ?_
        clear E a; intro a E
        refine WL_nil ?_
        refine T_n ?_
        refine WP_ret ?_
        refine B_r ?_
        refine T_r ?_
        refine T_r ?_
        refine B_r ?_
        refine T_r ?_
        exact F_ret1 E Try.results39 rfl ⟨_, rfl, M_2, hM_2, (bF (by ((try clear S); (try clear E); first | assumption | omega | rfl | (simp; done) | (simp_all; done) | (simp [List.take_add_one, *]; done) | grind [List.take_add_one]))), S⟩
      · replace hc_8 := of_decide_eq_false hc_8
        refine WP_skip ?_
        refine B_n ?_
        refine T_n ?_
        refine WP_region ?_
        refine S_v E rfl (R_addx (m := ((k + 1 : Nat) : Int)) E rfl rfl (by omega) (by omega)) rfl ?_
        clear E a; intro a E
        refine S_v E rfl (R_move E rfl) rfl ?_
        clear E a; intro a E
        refine WL_nil ?_
        refine T_n ?_
        exact ⟨k + 1, ⟨M_2, hM_2, S, E.keep ⟨rfl, rfl, rfl, rfl, trivial⟩, by ((try clear S); (try clear E); first | assumption | omega | rfl | (simp; done) | (simp_all; done) | (simp [List.take_add_one, *]; done) | grind [List.take_add_one]), by ((try clear S); (try clear E); first | assumption | omega | rfl | (simp; done) | (simp_all; done) | (simp [List.take_add_one, *]; done) | grind [List.take_add_one]), by ((try clear S); (try clear E); first | assumption | omega | rfl | (simp; done) | (simp_all; done) | (simp [List.take_add_one, *]; done) | grind [List.take_add_one])⟩, by omega⟩
    · replace hc_3 := of_decide_eq_false hc_3
      refine WP_exit ?_
      refine T_x ?_
      refine T_x ?_
      refine B_x ?_
      refine T_n ?_
      refine WP_seq ?_
      refine WP_region ?_
      refine S_v E rfl (R_assign E rfl) rfl ?_
      clear E a; intro a E
      refine WL_nil ?_
      refine T_n ?_
      refine WP_ret ?_
      exact F_ret1 E Try.results39 rfl ⟨_, rfl, M_2, hM_2, (bT (by ((try clear S); (try clear E); first | assumption | omega | rfl | (simp; done) | (simp_all; done) | (simp [List.take_add_one, *]; done) | grind [List.take_add_one]))), S⟩

set_option maxRecDepth 100000 in
set_option maxHeartbeats 4000000 in
theorem spec_DropByIndex {M : Hp} {v0 v1 : Value} {l0 l1 : List Int} (h0 : RdI M v0 l0) (h1 : RdI M v1 l1) (hb : l0.length ≤ 1000000000000) :
    Pu Try.prog (.func (.func 41) #[] #[]) M [v0, v1] (fun r M' => RdI M' r (filtI (fun _ i => !decide (i ∈ l1) && !decide (i - (l0).length ∈ l1)) 0 l0)) := by
  refine Pu_enter Try.func41 rfl Try.ntmps41 rfl Try.call41 ?_
  intro a w M1 H hM1 S E
  replace h0 := h0.le hM1
  replace h1 := h1.le hM1
  have b0 := h0.bound
  have b1 := h1.bound
  refine WP_seq ?_
  refine WP_region ?_
  refine S_v E rfl (R_assign E rfl) rfl ?_
  clear E a; intro a E
  refine WL_nil ?_
  refine T_n ?_
  refine WP_seq ?_
  refine WP_region ?_
  refine S_v E rfl (R_assign E rfl) rfl ?_
  clear E a; intro a E
  refine WL_nil ?_
  refine T_n ?_
  refine WP_seq ?_
  refine WP_seq ?_
  refine WP_region ?_
  refine S_v E rfl (R_move E rfl) rfl ?_
  clear E a; intro a E
  refine S_v E rfl (R_lenV E rfl T22 h0.len) rfl ?_
  clear E a; intro a E
  refine S_v E rfl (R_move E rfl) rfl ?_
  clear E a; intro a E
  refine WL_nil ?_
  refine T_n ?_
  refine WP_block ?_
  replace S := (S.ownNil (e := 3) (sz := 1)).made0
  replace S := S.re1 (l' := filtI (fun _ i => !decide (i ∈ l1) && !decide (i - l0.length ∈ l1)) 0 (l0.take 0)) (by first | (simp [filtI]; done) | (rw [filtI_succ (by assumption)]; simp_all; done))
  refine WP_loop (γ := Nat) (fun (k : Nat) a w => ∃ (M_2 : Hp) (u5 : Value), Hp.le M1 M_2 ∧ St w M_2 (OwnI 3 u5 (filtI (fun _ i => !decide (i ∈ l1) && !decide (i - l0.length ∈ l1)) 0 (l0.take k)) :: H) ∧ Env a 34 [] [(0, v0), (1, v1), (5, u5), (8, v0), (9, .int .i64 (((l0).length : Nat) : Int)), (10, .int .i64 ((k : Nat) : Int))] ∧ (k ≤ (l0).length)) (fun k => ((l0).length) - k) 0 ⟨M1, _, Hp.le.refl _, S, E.keep ⟨rfl, rfl, rfl, rfl, rfl, rfl, trivial⟩, by ((try clear S); (try clear E); first | assumption | omega | rfl | (simp; done) | (simp_all; done) | (simp [List.take_add_one, *]; done) | grind [List.take_add_one])⟩ ?_
  try clear E
  try clear S
  try clear a
  try clear w
  rintro k a w ⟨M_2, u5, hM_2, S, E, hL0_0⟩
  replace h0 := h0.le hM_2
  replace h1 := h1.le hM_2
  have hfl := filtI_len (fun _ i => !decide (i ∈ l1) && !decide (i - l0.length ∈ l1)) (l0.take k) 0; simp only [List.length_take] at hfl
  refine WP_seq ?_
  refine WP_region ?_
  refine S_v E rfl (R_lss E rfl rfl) rfl ?_
  clear E a; intro a E
  refine WL_nil ?_
  refine T_n ?_
  refine WP_seq ?_
  refine WP_cond E rfl (fun hc_3 => ?_) (fun hc_3 => ?_)
  · replace hc_3 := of_decide_eq_true hc_3
    refine WP_skip ?_
    refine T_n ?_
    refine WP_seq ?_
    refine WP_block ?_
    refine WP_seq ?_
    refine WP_region ?_
    refine S_v E rfl (R_move E rfl) rfl ?_
    clear E a; intro a E
    obtain ⟨x_4, hx_4⟩ : ∃ x, (l0)[k]? = some x := ⟨_, List.getElem?_eq_getElem (by first | omega | (simp; done) | (simp; omega) | (simp_all; omega))⟩
    obtain ⟨p_5, hp_5, qp_5⟩ := h0.at hx_4
    refine S_v E rfl (R_idx E rfl rfl T22 hp_5 rfl) rfl ?_
    clear E a; intro a E
    refine S_v E rfl (R_loadM E rfl Try.isAgg3 S.imm qp_5) rfl ?_
    clear E a; intro a E
    refine S_v E rfl (R_assign E rfl) rfl ?_
    clear E a; intro a E
    refine S_v E rfl (R_assign E rfl) rfl ?_
    clear E a; intro a E
    refine WL_nil ?_
    refine T_n ?_
    refine WP_seq ?_
    refine WP_region ?_
    refine S_v E rfl (R_move E rfl) rfl ?_
    clear E a; intro a E
    refine S_v E rfl (R_move E rfl) rfl ?_
    clear E a; intro a E
    refine S_x (X_pu E S rfl rfl rfl (spec_Contains h1) (Hp.le.refl _) ?_)
    clear E a S; rintro a _ w M_6 hM_6 rfl S E
    replace h0 := h0.le hM_6
    replace h1 := h1.le hM_6
    refine S_v E rfl (R_not E rfl) rfl ?_
    clear E a; intro a E
    refine S_v E rfl (R_move E rfl) rfl ?_
    clear E a; intro a E
    refine split_bool (!(decide (((k : Nat) : Int) ∈ l1))) (fun hc_7 => ?_) (fun hc_7 => ?_)
    · replace E := E.val (t := 18) rfl hc_7
      replace E := E.val (t := 19) rfl hc_7
      refine WL_guard_yes E rfl rfl ?_
      refine S_v E rfl (R_move E rfl) rfl ?_
      clear E a; intro a E
      refine WL_guard_yes E rfl rfl ?_
      refine S_v E rfl (R_move E rfl) rfl ?_
      clear E a; intro a E
      refine WL_guard_yes E rfl rfl ?_
      refine S_v E rfl (R_move E rfl) rfl ?_
      clear E a; intro a E
      refine WL_guard_yes E rfl rfl ?_
      refine S_v E rfl (R_lenV E rfl T22 h0.len) rfl ?_
      clear E a; intro a E
      refine WL_guard_yes E rfl rfl ?_
      refine S_v E rfl (R_subx (m := ((k : Nat) : Int) - (((l0).length : Nat) : Int)) E rfl rfl (by omega) (by omega)) rfl ?_
      clear E a; intro a E
      refine WL_guard_yes E rfl rfl ?_
      refine S_x (X_pu E S rfl rfl rfl (spec_Contains h1) (Hp.le.refl _) ?_)
      clear E a S; rintro a _ w M_8 hM_8 rfl S E
      replace h0 := h0.le hM_8
      replace h1 := h1.le hM_8
      refine WL_guard_yes E rfl rfl ?_
      refine S_v E rfl (R_not E rfl) rfl ?_
      clear E a; intro a E
      refine S_v E rfl (R_pickT E rfl rfl) rfl ?_
      clear E a; intro a E
      refine WL_nil ?_
      refine T_n ?_
      refine WP_cond E rfl (fun hc_9 => ?_) (fun hc_9 => ?_)
      · refine WP_region ?_
        refine S_v E rfl (R_move E rfl) rfl ?_
        clear E a; intro a E
        refine S_v E rfl (R_move E rfl) rfl ?_
        clear E a; intro a E
        refine S_x (X_buildI (ys := [x_4]) E S rfl T22 rfl rfl rfl ?_)
        clear E a S; rintro a w v_10 E S
        replace S := S.front1
        replace S := S.front1
        refine S_x (X_appendB (xs := filtI (fun _ i => !decide (i ∈ l1) && !decide (i - l0.length ∈ l1)) 0 (l0.take k)) (ys := [x_4]) E S rfl rfl rfl T22 (by (simp only [List.length_cons, List.length_nil]; omega)) ?_)
        clear E a S; rintro a w v_11 E S
        refine S_v E rfl (R_assign E rfl) rfl ?_
        clear E a; intro a E
        refine WL_nil ?_
        refine B_n ?_
        refine T_n ?_
        refine WP_region ?_
        refine S_v E rfl (R_addx (m := ((k + 1 : Nat) : Int)) E rfl rfl (by omega) (by omega)) rfl ?_
        clear E a; intro a E
        refine S_v E rfl (R_move E rfl) rfl ?_
        clear E a; intro a E
        refine WL_nil ?_
        refine T_n ?_
        replace S := S.re1 (l' := filtI (fun _ i => !decide (i ∈ l1) && !decide (i - l0.length ∈ l1)) 0 (l0.take (k + 1))) (by first | (simp [filtI]; done) | (rw [filtI_succ (by assumption)]; simp_all; done))
        exact ⟨k + 1, ⟨M_8, _, (hM_2.trans (hM_6.trans hM_8)), S, E.keep ⟨rfl, rfl, rfl, rfl, rfl, rfl, trivial⟩, by ((try clear S); (try clear E); first | assumption | omega | rfl | (simp; done) | (simp_all; done) | (simp [List.take_add_one, *]; done) | grind [List.take_add_one])⟩, by omega⟩
      · refine WP_skip ?_
        refine B_n ?_
        refine T_n ?_
        refine WP_region ?_
        refine S_v E rfl (R_addx (m := ((k + 1 : Nat) : Int)) E rfl rfl (by omega) (by omega)) rfl ?_
        clear E a; intro a E
        refine S_v E rfl (R_move E rfl) rfl ?_
        clear E a; intro a E
        refine WL_nil ?_
        refine T_n ?_
        replace S := S.re1 (l' := filtI (fun _ i => !decide (i ∈ l1) && !decide (i - l0.length ∈ l1)) 0 (l0.take (k + 1))) (by first | (simp [filtI]; done) | (rw [filtI_succ (by assumption)]; simp_all; done))
        exact ⟨k + 1, ⟨M_8, _, (hM_2.trans (hM_6.trans hM_8)), S, E.keep ⟨rfl, rfl, rfl, rfl, rfl, rfl, trivial⟩, by ((try clear S); (try clear E); first | assumption | omega | rfl | (simp; done) | (simp_all; done) | (simp [List.take_add_one, *]; done) | grind [List.take_add_one])⟩, by omega⟩
    · replace E := E.val (t := 18) rfl hc_7
      replace E := E.val (t := 19) rfl hc_7
      refine WL_guard_no E rfl rfl rfl rfl fun a E => ?_
      refine WL_guard_no E rfl rfl rfl rfl fun a E => ?_
      refine WL_guard_no E rfl rfl rfl rfl fun a E => ?_
      refine WL_guard_no E rfl rfl rfl rfl fun a E => ?_
      refine WL_guard_no E rfl rfl rfl rfl fun a E => ?_
      refine WL_guard_no E rfl rfl rfl rfl fun a E => ?_
      refine WL_guard_no E rfl rfl rfl rfl fun a E => ?_
      refine S_v E rfl (R_pickF E rfl rfl) rfl ?_
      clear E a; intro a E
      refine WL_nil ?_
      refine T_n ?_
      refine WP_condF E rfl rfl ?_
      refine WP_skip ?_
      refine B_n ?_
      refine T_n ?_
      refine WP_region ?_
      refine S_v E rfl (R_addx (m := ((k + 1 : Nat) : Int)) E rfl rfl (by omega) (by omega)) rfl ?_
      clear E a; intro a E
      refine S_v E rfl (R_move E rfl) rfl ?_
      clear E a; intro a E
      refine WL_nil ?_
      refine T_n ?_
      replace S := S.re1 (l' := filtI (fun _ i => !decide (i ∈ l1) && !decide (i - l0.length ∈ l1)) 0 (l0.take (k + 1))) (by first | (simp [filtI]; done) | (rw [filtI_succ (by assumption)]; simp_all; done))
      exact ⟨k + 1, ⟨M_6, _, (hM_2.trans hM_6), S, E.keep ⟨rfl, rfl, rfl, rfl, rfl, rfl, trivial⟩, by ((try clear S); (try clear E); first | assumption | omega | rfl | (simp; done) | (simp_all; done) | (simp [List.take_add_one, *]; done) | grind [List.take_add_one])⟩, by omega⟩
  · replace hc_3 := of_decide_eq_false hc_3
    refine WP_exit ?_
    refine T_x ?_
    refine T_x ?_
    refine B_x ?_
    refine T_n ?_
    refine WP_seq ?_
    refine WP_region ?_
    refine S_v E rfl (R_move E rfl) rfl ?_
    clear E a; intro a E
    refine S_v E rfl (R_assign E rfl) rfl ?_
    clear E a; intro a E
    refine WL_nil ?_
    refine T_n ?_
    refine WP_ret ?_
    have S0 := S; clear S
    obtain ⟨M_12, hM_12, hz_13, S⟩ := S0.freezeI (by (have hfl := filtI_len (fun _ i => !decide (i ∈ l1) && !decide (i - l0.length ∈ l1)) (l0.take k) 0; simp only [List.length_take] at hfl; omega))
    clear S0
    replace h0 := h0.le hM_12
    replace h1 := h1.le hM_12
    exact F_ret1 E Try.results41 rfl ⟨_, rfl, M_12, (hM_2.trans hM_12), (by rw [show (filtI (fun _ i => !decide (i ∈ l1) && !decide (i - (l0).length ∈ l1)) 0 l0) = (filtI (fun _ i => !decide (i ∈ l1) && !decide (i - l0.length ∈ l1)) 0 (l0.take k)) from by (rw [List.take_of_length_le (by omega)]; first | done | rfl)]; exact hz_13), S⟩

set_option maxRecDepth 100000 in
set_option maxHeartbeats 4000000 in
def Try.lsort_ren : Go.Shelf.Ren := ⟨fun | 5 => 118 | 8 => 115 | 7 => 139 | 19 => 129 | 20 => 130 | 10 => 145 | 11 => 146 | 12 => 147 | 13 => 148 | 14 => 149 | 15 => 150 | 16 => 151 | 17 => 152 | 18 => 153 | 30 => 155 | 31 => 156 | 32 => 157 | 33 => 158 | 34 => 159 | 35 => 160 | 40 => 161 | n => n, fun | 23 => 22 | 25 => 3 | 3 => 3 | 32 => 107 | 22 => 22 | 0 => 0 | 44 => 128 | 46 => 123 | 4 => 4 | 36 => 146 | 35 => 145 | 41 => 104 | 5 => 5 | 9 => 9 | 53 => 153 | 57 => 142 | 63 => 156 | 64 => 102 | n => n, fun | n => n⟩
set_option maxRecDepth 100000 in
set_option maxHeartbeats 4000000 in
theorem Try.lsort : Go.Proofs.SlLaysM.n5 Try.prog Try.lsort_ren := {
  mixed := by kernel_rfl,
  f5 := ⟨Try.f118.name, by decide, Try.func118.trans (congrArg some (by kernel_rfl))⟩,
  f7 := ⟨Try.f139.name, by decide, Try.func139.trans (congrArg some (by kernel_rfl))⟩,
  f8 := Try.func115.trans (congrArg some (by kernel_rfl)),
  f10 := ⟨Try.f145.name, by decide, Try.func145.trans (congrArg some (by kernel_rfl))⟩,
  f11 := ⟨Try.f146.name, by decide, Try.func146.trans (congrArg some (by kernel_rfl))⟩,
  f12 := ⟨Try.f147.name, by decide, Try.func147.trans (congrArg some (by kernel_rfl))⟩,
  f13 := ⟨Try.f148.name, by decide, Try.func148.trans (congrArg some (by kernel_rfl))⟩,
  f14 := ⟨Try.f149.name, by decide, Try.func149.trans (congrArg some (by kernel_rfl))⟩,
  f15 := ⟨Try.f150.name, by decide, Try.func150.trans (congrArg some (by kernel_rfl))⟩,
  f16 := ⟨Try.f151.name, by decide, Try.func151.trans (congrArg some (by kernel_rfl))⟩,
  f17 := ⟨Try.f152.name, by decide, Try.func152.trans (congrArg some (by kernel_rfl))⟩,
  f18 := ⟨Try.f153.name, by decide, Try.func153.trans (congrArg some (by kernel_rfl))⟩,
  f19 := Try.func129.trans (congrArg some (by kernel_rfl)),
  f20 := Try.func130.trans (congrArg some (by kernel_rfl)),
  f30 := ⟨Try.f155.name, by decide, Try.func155.trans (congrArg some (by kernel_rfl))⟩,
  f31 := Try.func156.trans (congrArg some (by kernel_rfl)),
  f32 := Try.func157.trans (congrArg some (by kernel_rfl)),
  f33 := ⟨Try.f158.name, by decide, Try.func158.trans (congrArg some (by kernel_rfl))⟩,
  f34 := ⟨Try.f159.name, by decide, Try.func159.trans (congrArg some (by kernel_rfl))⟩,
  f35 := ⟨Try.f160.name, by decide, Try.func160.trans (congrArg some (by kernel_rfl))⟩,
  f40 := ⟨Try.f161.name, by decide, Try.func161.trans (congrArg some (by kernel_rfl))⟩,
  t0 := Try.underlying0,
  a0 := Try.isAgg0,
  z0 := Try.sizeOf0,
  v0 := Try.zeroValue0,
  t3 := Try.underlying3,
  a3 := Try.isAgg3,
  z3 := Try.sizeOf3,
  v3 := Try.zeroValue3,
  t4 := Try.underlying4,
  a4 := Try.isAgg4,
  z4 := Try.sizeOf4,
  v4 := Try.zeroValue4,
  t5 := Try.underlying5,
  a5 := Try.isAgg5,
  z5 := Try.sizeOf5,
  v5 := Try.zeroValue5,
  t9 := Try.underlying9,
  a9 := Try.isAgg9,
  z9 := Try.sizeOf9,
  v9 := Try.zeroValue9,
  t22 := Try.underlying22,
  a22 := Try.isAgg22,
  z22 := Try.sizeOf22,
  v22 := Try.zeroValue22,
  t23 := Try.underlying22,
  a23 := Try.isAgg22,
  z23 := Try.sizeOf22,
  v23 := Try.zeroValue22,
  t25 := Try.underlying3,
  a25 := Try.isAgg3,
  z25 := Try.sizeOf3,
  v25 := Try.zeroValue3,
  t32 := Try.underlying107,
  a32 := Try.isAgg107,
  z32 := Try.sizeOf107,
  v32 := Try.zeroValue107,
  t35 := Try.underlying145,
  a35 := Try.isAgg145,
  z35 := Try.sizeOf145,
  v35 := Try.zeroValue145,
  t36 := Try.underlying146,
  a36 := Try.isAgg146,
  z36 := Try.sizeOf146,
  v36 := Try.zeroValue146,
  t41 := Try.underlying104,
  a41 := Try.isAgg104,
  z41 := Try.sizeOf104,
  v41 := Try.zeroValue104,
  t44 := Try.underlying128,
  a44 := Try.isAgg128,
  z44 := Try.sizeOf128,
  v44 := Try.zeroValue128,
  t46 := Try.underlying123,
  a46 := Try.isAgg123,
  z46 := Try.sizeOf123,
  v46 := Try.zeroValue123,
  t53 := Try.underlying153,
  a53 := Try.isAgg153,
  z53 := Try.sizeOf153,
  v53 := Try.zeroValue153,
  t57 := Try.underlying142,
  a57 := Try.isAgg142,
  z57 := Try.sizeOf142,
  v57 := Try.zeroValue142,
  t63 := Try.underlying156,
  a63 := Try.isAgg156,
  z63 := Try.sizeOf156,
  v63 := Try.zeroValue156,
  t64 := Try.underlying102,
  a64 := Try.isAgg102,
  z64 := Try.sizeOf102,
  v64 := Try.zeroValue102 }
theorem slices_Sort {M : Hp} {v0 : Value} {l0 : List Int} (b0 : l0.length ≤ 1000000000000) :
    Sp Try.prog (.func (.func 118) #[] #[]) M [v0] [OwnI 3 v0 l0] (fun r M' C' => C' = [OwnI 3 v0 (srtM l0)]) :=
  sort_sp Try.call118 (fun blk off cap zs w a b c => AnyM.slices_Sort_int Try.lsort blk off cap zs w a b c) (fun p cap w => AnyM.slices_Sort_int_none Try.lsort p cap w) b0

set_option maxRecDepth 100000 in
set_option maxHeartbeats 4000000 in
theorem sort_Ints {M : Hp} {v0 : Value} {l0 : List Int} (b0 : l0.length ≤ 1000000000000) :
    Sp Try.prog (.func (.func 102) #[] #[]) M [v0] [OwnI 3 v0 l0] (fun r M' C' => C' = [OwnI 3 v0 (srtM l0)]) := by
  refine Sp_enter Try.func102 rfl Try.ntmps102 rfl Try.call102 ?_
  intro a w M1 H hM1 S E
  replace S : St w M1 (OwnI 3 v0 l0 :: _) := S
  refine WP_region ?_
  refine S_v E rfl (R_move E rfl) rfl ?_
  clear E a; intro a E
  refine S_x (X_sp (p := [OwnI 3 v0 l0]) E S rfl rfl rfl (slices_Sort (by (first | omega | (simp; omega) | (simp; done) | (simp_all; omega) | grind))) (Hp.le.refl _) ?_)
  clear E a S; rintro a v_2 w M_1 _ hM_1 rfl S E
  replace S : St w M_1 (OwnI 3 v0 (srtM l0) :: _) := S
  refine WL_nil ?_
  refine F_nrm ?_
  exact F_ret0 E Try.results102 ⟨_, rfl, M_1, _, hM_1, rfl, S⟩

set_option maxRecDepth 100000 in
set_option maxHeartbeats 4000000 in
theorem mutable_Filter_st {M : Hp} {v0 : Value} {l0 : List Int} {v1 : Value} {C1 : Int → HProp} {f1 : Int → Int → Bool} {g1 : Int → Int → Int} (h1 : StF1B Try.prog v1 M C1 f1 g1) {s9 : Int} (b0 : l0.length ≤ 1000000000000) :
    Sp Try.prog (.func (.func 103) #[] #[]) M [v0, v1] [OwnI 3 v0 l0, C1 s9] (fun r M' C' => C' = [] ∧ RdI M' r (filtS f1 g1 s9 l0)) := by
  refine Sp_enter Try.func103 rfl Try.ntmps103 rfl Try.call103 ?_
  intro a w M1 H hM1 S E
  replace S : St w M1 (OwnI 3 v0 l0 :: C1 s9 :: _) := S
  replace h1 := h1.le hM1
  refine WP_seq ?_
  refine WP_region ?_
  refine S_v E rfl (R_assign E rfl) rfl ?_
  clear E a; intro a E
  refine WL_nil ?_
  refine T_n ?_
  refine WP_seq ?_
  refine WP_region ?_
  refine S_v E rfl (R_assign E rfl) rfl ?_
  clear E a; intro a E
  refine WL_nil ?_
  refine T_n ?_
  refine WP_seq ?_
  refine WP_seq ?_
  refine WP_region ?_
  refine S_v E rfl (R_move E rfl) rfl ?_
  clear E a; intro a E
  refine S_v E rfl (R_lenV E rfl T22 S.lenC) rfl ?_
  clear E a; intro a E
  refine S_v E rfl (R_move E rfl) rfl ?_
  clear E a; intro a E
  refine WL_nil ?_
  refine T_n ?_
  refine WP_block ?_
  replace S := S.front1
  replace S := S.front1
  replace S := S.front1
  replace S := S.reSt (C := C1) (s' := endS g1 s9 (l0.take 0)) (by first | rfl | (simp [endS]; done) | (have hg := comp_get (a := filtS f1 g1 s9 (l0.take k)) (l := l0) (k := k) (by omega) (by assumption); exact eS_step hg))
  replace S := S.front1
  replace S := S.re1 (l' := filtS f1 g1 s9 (l0.take 0) ++ l0.drop (filtS f1 g1 s9 (l0.take 0)).length) (by first | (simp [filtS]; done) | (have hg := comp_get (a := filtS f1 g1 s9 (l0.take k)) (l := l0) (k := k) (by omega) (by assumption); rw [fS_no hg (by assumption)]; done) | (have hg := comp_get (a := filtS f1 g1 s9 (l0.take k)) (l := l0) (k := k) (by omega) (by assumption); exact comp_set (by omega) (fS_yes hg (by assumption))))
  refine WP_loop (γ := Nat) (fun (k : Nat) a w => ∃ (M_1 : Hp), Hp.le M1 M_1 ∧ St w M_1 (OwnI 3 v0 (filtS f1 g1 s9 (l0.take k) ++ l0.drop (filtS f1 g1 s9 (l0.take k)).length) :: C1 (endS g1 s9 (l0.take k)) :: H) ∧ Env a 31 [] [(0, v0), (1, v1), (5, .int .i64 (((filtS f1 g1 s9 (l0.take k)).length : Nat) : Int)), (8, .int .i64 (((l0).length : Nat) : Int)), (9, .int .i64 ((k : Nat) : Int))] ∧ (k ≤ (l0).length)) (fun k => ((l0).length) - k) 0 ⟨M1, Hp.le.refl _, S, E.keep ⟨rfl, rfl, look_nat (i := 0) rfl (by (simp [filtS])), rfl, rfl, trivial⟩, by ((try clear S); (try clear E); first | assumption | omega | rfl | (simp; done) | (simp_all; done) | (simp [List.take_add_one, *]; done) | grind [List.take_add_one])⟩ ?_
  try clear E
  try clear S
  try clear a
  try clear w
  rintro k a w ⟨M_1, hM_1, S, E, hL0_0⟩
  replace h1 := h1.le hM_1
  have hfl := filtS_len f1 g1 (l0.take k) s9; simp only [List.length_take] at hfl
  refine WP_seq ?_
  refine WP_region ?_
  refine S_v E rfl (R_lss E rfl rfl) rfl ?_
  clear E a; intro a E
  refine WL_nil ?_
  refine T_n ?_
  refine WP_seq ?_
  refine WP_cond E rfl (fun hc_2 => ?_) (fun hc_2 => ?_)
  · replace hc_2 := of_decide_eq_true hc_2
    refine WP_skip ?_
    refine T_n ?_
    refine WP_seq ?_
    refine WP_block ?_
    refine WP_seq ?_
    refine WP_region ?_
    refine S_v E rfl (R_move E rfl) rfl ?_
    clear E a; intro a E
    refine S_v E rfl (R_assign E rfl) rfl ?_
    clear E a; intro a E
    refine WL_nil ?_
    refine T_n ?_
    refine WP_seq ?_
    refine WP_region ?_
    refine S_v E rfl (R_move E rfl) rfl ?_
    clear E a; intro a E
    refine S_v E rfl (R_move E rfl) rfl ?_
    clear E a; intro a E
    refine S_v E rfl (R_move E rfl) rfl ?_
    clear E a; intro a E
    obtain ⟨p_3, hp_3⟩ := S.ptrC (k := k) (by first | omega | (simp; done) | (simp; omega))
    refine S_v E rfl (R_idx E rfl rfl T22 hp_3 rfl) rfl ?_
    clear E a; intro a E
    obtain ⟨x_4, hx_4⟩ : ∃ x, (filtS f1 g1 s9 (l0.take k) ++ l0.drop (filtS f1 g1 s9 (l0.take k)).length)[k]? = some x := ⟨_, List.getElem?_eq_getElem (by first | omega | (simp; done) | (simp; omega))⟩
    refine S_v E rfl (R_load E rfl (Try.isAgg3 _) (S.cellI hp_3 hx_4)) rfl ?_
    clear E a; intro a E
    replace S := S.front1
    refine S_x (X_st E S rfl rfl rfl (h1.2 (endS g1 s9 (l0.take k)) x_4) (Hp.le.refl _) ?_)
    clear E a S; rintro a w M_5 hM_5 S E
    replace h1 := h1.le hM_5
    refine WL_nil ?_
    refine T_n ?_
    refine WP_cond E rfl (fun hc_6 => ?_) (fun hc_6 => ?_)
    · refine WP_seq ?_
      refine WP_region ?_
      refine S_v E rfl (R_move E rfl) rfl ?_
      clear E a; intro a E
      refine S_v E rfl (R_move E rfl) rfl ?_
      clear E a; intro a E
      refine S_v E rfl (R_move E rfl) rfl ?_
      clear E a; intro a E
      refine S_v E rfl (R_move E rfl) rfl ?_
      clear E a; intro a E
      refine S_v E rfl (R_idx E rfl rfl T22 hp_3 rfl) rfl ?_
      clear E a; intro a E
      replace S := S.front1
      refine S_v E rfl (R_load E rfl (Try.isAgg3 _) (S.cellI hp_3 hx_4)) rfl ?_
      clear E a; intro a E
      obtain ⟨p_7, hp_7⟩ := S.ptrC (k := (filtS f1 g1 s9 (l0.take k)).length) (by first | omega | (simp; done) | (simp; omega))
      refine S_v E rfl (R_idx E rfl rfl T22 hp_7 rfl) rfl ?_
      clear E a; intro a E
      refine S_x0 (X_storeI E S rfl rfl (Try.sizeOf3 _) hp_7 ?_)
      clear E a S; rintro a w E S
      refine WL_nil ?_
      refine T_n ?_
      refine WP_region ?_
      refine S_v E rfl (R_move E rfl) rfl ?_
      clear E a; intro a E
      refine S_v E rfl (R_addx (m := (((filtS f1 g1 s9 (l0.take k)).length + 1 : Nat) : Int)) E rfl rfl (by omega) (by omega)) rfl ?_
      clear E a; intro a E
      refine S_v E rfl (R_assign E rfl) rfl ?_
      clear E a; intro a E
      refine WL_nil ?_
      refine B_n ?_
      refine T_n ?_
      refine WP_region ?_
      refine S_v E rfl (R_addx (m := ((k + 1 : Nat) : Int)) E rfl rfl (by omega) (by omega)) rfl ?_
      clear E a; intro a E
      refine S_v E rfl (R_move E rfl) rfl ?_
      clear E a; intro a E
      refine WL_nil ?_
      refine T_n ?_
      replace S := S.front1
      replace S := S.reSt (C := C1) (s' := endS g1 s9 (l0.take (k + 1))) (by first | rfl | (simp [endS]; done) | (have hg := comp_get (a := filtS f1 g1 s9 (l0.take k)) (l := l0) (k := k) (by omega) (by assumption); exact eS_step hg))
      replace S := S.front1
      replace S := S.re1 (l' := filtS f1 g1 s9 (l0.take (k + 1)) ++ l0.drop (filtS f1 g1 s9 (l0.take (k + 1))).length) (by first | (simp [filtS]; done) | (have hg := comp_get (a := filtS f1 g1 s9 (l0.take k)) (l := l0) (k := k) (by omega) (by assumption); rw [fS_no hg (by assumption)]; done) | (have hg := comp_get (a := filtS f1 g1 s9 (l0.take k)) (l := l0) (k := k) (by omega) (by assumption); exact comp_set (by omega) (fS_yes hg (by assumption))))
      exact ⟨k + 1, ⟨M_5, (hM_1.trans hM_5), S, E.keep ⟨rfl, rfl, look_nat (i := (filtS f1 g1 s9 (l0.take k)).length + 1) rfl (by (have hg := comp_get (a := filtS f1 g1 s9 (l0.take k)) (l := l0) (k := k) (by omega) (by assumption); first | (rw [fS_no hg (by assumption)]; done) | (rw [fS_yes hg (by assumption)]; simp))), rfl, rfl, trivial⟩, by ((try clear S); (try clear E); first | assumption | omega | rfl | (simp; done) | (simp_all; done) | (simp [List.take_add_one, *]; done) | grind [List.take_add_one])⟩, by omega⟩
    · refine WP_skip ?_
      refine B_n ?_
      refine T_n ?_
      refine WP_region ?_
      refine S_v E rfl (R_addx (m := ((k + 1 : Nat) : Int)) E rfl rfl (by omega) (by omega)) rfl ?_
      clear E a; intro a E
      refine S_v E rfl (R_move E rfl) rfl ?_
      clear E a; intro a E
      refine WL_nil ?_
      refine T_n ?_
      replace S := S.front1
      replace S := S.front1
      replace S := S.reSt (C := C1) (s' := endS g1 s9 (l0.take (k + 1))) (by first | rfl | (simp [endS]; done) | (have hg := comp_get (a := filtS f1 g1 s9 (l0.take k)) (l := l0) (k := k) (by omega) (by assumption); exact eS_step hg))
      replace S := S.front1
      replace S := S.re1 (l' := filtS f1 g1 s9 (l0.take (k + 1)) ++ l0.drop (filtS f1 g1 s9 (l0.take (k + 1))).length) (by first | (simp [filtS]; done) | (have hg := comp_get (a := filtS f1 g1 s9 (l0.take k)) (l := l0) (k := k) (by omega) (by assumption); rw [fS_no hg (by assumption)]; done) | (have hg := comp_get (a := filtS f1 g1 s9 (l0.take k)) (l := l0) (k := k) (by omega) (by assumption); exact comp_set (by omega) (fS_yes hg (by assumption))))
      exact ⟨k + 1, ⟨M_5, (hM_1.trans hM_5), S, E.keep ⟨rfl, rfl, look_nat (i := (filtS f1 g1 s9 (l0.take k)).length) rfl (by (have hg := comp_get (a := filtS f1 g1 s9 (l0.take k)) (l := l0) (k := k) (by omega) (by assumption); first | (rw [fS_no hg (by assumption)]; done) | (rw [fS_yes hg (by assumption)]; simp))), rfl, rfl, trivial⟩, by ((try clear S); (try clear E); first | assumption | omega | rfl | (simp; done) | (simp_all; done) | (simp [List.take_add_one, *]; done) | grind [List.take_add_one])⟩, by omega⟩
  · replace hc_2 := of_decide_eq_false hc_2
    refine WP_exit ?_
    refine T_x ?_
    refine T_x ?_
    refine B_x ?_
    refine T_n ?_
    refine WP_seq ?_
    refine WP_region ?_
    refine S_v E rfl (R_move E rfl) rfl ?_
    clear E a; intro a E
    refine S_v E rfl (R_move E rfl) rfl ?_
    clear E a; intro a E
    have S0 := S; clear S
    obtain ⟨M_8, hM_8, hz_9, S⟩ := S0.freezeI (by (have hfl := filtS_len f1 g1 (l0.take k) s9; simp only [List.length_take] at hfl; first | (simp; done) | (simp; omega)))
    clear S0
    replace h1 := h1.le hM_8
    obtain ⟨v_10, sv_10, hv_10⟩ := hz_9.subv 0 ((filtS f1 g1 s9 (l0.take k)).length) (by first | omega | (simp; done) | (simp; omega)) (by first | omega | (simp; done) | (simp; omega))
    simp only [List.drop_zero] at hv_10
    replace hv_10 : RdI M_8 v_10 ((filtS f1 g1 s9 (l0.take k) ++ l0.drop (filtS f1 g1 s9 (l0.take k)).length).take ((filtS f1 g1 s9 (l0.take k)).length)) := hv_10
    refine S_v E rfl (R_sliceH E rfl rfl T22 sv_10 (by omega)) rfl ?_
    clear E a; intro a E
    refine S_v E rfl (R_assign E rfl) rfl ?_
    clear E a; intro a E
    refine WL_nil ?_
    refine T_n ?_
    refine WP_ret ?_
    exact F_ret1 E Try.results103 rfl ⟨_, rfl, M_8, [], (hM_1.trans hM_8), ⟨rfl, (by rw [show (filtS f1 g1 s9 l0) = ((filtS f1 g1 s9 (l0.take k) ++ l0.drop (filtS f1 g1 s9 (l0.take k)).length).take ((filtS f1 g1 s9 (l0.take k)).length)) from by (rw [List.take_append_of_le_length (Nat.le_refl _), List.take_length, List.take_of_length_le (l := l0) (by omega)])]; exact hv_10)⟩, S.drop⟩

set_option maxRecDepth 100000 in
set_option maxHeartbeats 4000000 in
theorem lo_DropByIndex1 {M : Hp} {x0 s9 : Int} {n1 : Nat} {b9 : Nat} {bx1 : Nat} (hbx1 : M bx1 = some (.cells #[.int .i64 (n1 : Int)] 3)) :
    Sp Try.prog (.func (.func 104) #[] #[.pointer (some ⟨b9, 0, none⟩), .pointer (some ⟨bx1, 0, none⟩)]) M [.int .i64 x0] [cellI b9 3 s9] (fun r M' C' => r = .bool (drF n1 s9 x0) ∧ C' = [(cellI b9 3) (drG s9 x0)]) := by
  refine Sp_enter Try.func104 rfl Try.ntmps104 rfl Try.call104 ?_
  intro a w M1 H hM1 S E
  replace S : St w M1 (blk b9 (.cells #[.int .i64 s9] 3) :: _) := S
  replace hbx1 := hM1.2 _ _ hbx1
  refine WP_seq ?_
  refine WP_region ?_
  refine S_v E rfl (R_assign E rfl) rfl ?_
  clear E a; intro a E
  refine WL_nil ?_
  refine T_n ?_
  refine WP_seq ?_
  refine WP_region ?_
  refine S_v E rfl (R_move E rfl) rfl ?_
  clear E a; intro a E
  refine S_v E rfl (R_load E rfl (Try.isAgg3 _) (cell_blk (S.mem (.head _)))) rfl ?_
  clear E a; intro a E
  refine S_v E rfl (R_neq E rfl rfl) rfl ?_
  clear E a; intro a E
  refine S_v E rfl (R_move E rfl) rfl ?_
  clear E a; intro a E
  refine split_bool (decide (x0 ≠ s9)) (fun hc_1 => ?_) (fun hc_1 => ?_)
  · replace E := E.val (t := 8) rfl hc_1
    replace E := E.val (t := 9) rfl hc_1
    replace hc_1 := of_decide_eq_true hc_1
    refine WL_guard_yes E rfl rfl ?_
    refine S_v E rfl (R_move E rfl) rfl ?_
    clear E a; intro a E
    refine WL_guard_yes E rfl rfl ?_
    refine S_v E rfl (R_conv E rfl Try.underlying3 Try.underlying107) rfl ?_
    clear E a; intro a E
    refine WL_guard_yes E rfl rfl ?_
    refine S_v E rfl (R_loadM E rfl Try.isAgg3 S.imm (cellM_box hbx1)) rfl ?_
    clear E a; intro a E
    refine WL_guard_yes E rfl rfl ?_
    refine S_v E rfl (R_conv E rfl Try.underlying3 Try.underlying107) rfl ?_
    clear E a; intro a E
    refine WL_guard_yes E rfl rfl ?_
    refine S_v E rfl (R_lss E rfl rfl) rfl ?_
    clear E a; intro a E
    refine S_v E rfl (R_pickT E rfl rfl) rfl ?_
    clear E a; intro a E
    refine S_v E rfl (R_assign E rfl) rfl ?_
    clear E a; intro a E
    refine WL_nil ?_
    refine T_n ?_
    refine WP_seq ?_
    refine WP_region ?_
    refine S_v E rfl (R_move E rfl) rfl ?_
    clear E a; intro a E
    refine S_x0 (X_store E S rfl rfl (Try.sizeOf3 _) rfl ?_)
    clear E a S; rintro a w E S
    refine WL_nil ?_
    refine T_n ?_
    refine WP_seq ?_
    refine WP_region ?_
    refine S_v E rfl (R_move E rfl) rfl ?_
    clear E a; intro a E
    refine S_v E rfl (R_assign E rfl) rfl ?_
    clear E a; intro a E
    refine WL_nil ?_
    refine T_n ?_
    refine WP_ret ?_
    replace S : St w M1 ((cellI b9 3) x0 :: _) := S
    replace S := S.reSt (C := (cellI b9 3)) (s' := drG s9 x0) (by (first | rfl | (simp_all [drF, drG, inR]; done) | (unfold drF inR; simp_all; done)))
    exact F_ret1 E Try.results104 rfl ⟨_, rfl, M1, _, (Hp.le.refl _), ⟨(congrArg (Value.bool) (show decide (IntKind.u64.wrap x0 < IntKind.u64.wrap ((n1 : Nat) : Int)) = drF n1 s9 x0 by (first | rfl | (simp_all [drF, drG, inR]; done) | (unfold drF inR; simp_all; done)))), rfl⟩, S⟩
  · replace E := E.val (t := 8) rfl hc_1
    replace E := E.val (t := 9) rfl hc_1
    replace hc_1 := of_decide_eq_false hc_1
    refine WL_guard_no E rfl rfl rfl rfl fun a E => ?_
    refine WL_guard_no E rfl rfl rfl rfl fun a E => ?_
    refine WL_guard_no E rfl rfl rfl rfl fun a E => ?_
    refine WL_guard_no E rfl rfl rfl rfl fun a E => ?_
    refine WL_guard_no E rfl rfl rfl rfl fun a E => ?_
    refine S_v E rfl (R_pickF E rfl rfl) rfl ?_
    clear E a; intro a E
    refine S_v E rfl (R_assign E rfl) rfl ?_
    clear E a; intro a E
    refine WL_nil ?_
    refine T_n ?_
    refine WP_seq ?_
    refine WP_region ?_
    refine S_v E rfl (R_move E rfl) rfl ?_
    clear E a; intro a E
    refine S_x0 (X_store E S rfl rfl (Try.sizeOf3 _) rfl ?_)
    clear E a S; rintro a w E S
    refine WL_nil ?_
    refine T_n ?_
    refine WP_seq ?_
    refine WP_region ?_
    refine S_v E rfl (R_move E rfl) rfl ?_
    clear E a; intro a E
    refine S_v E rfl (R_assign E rfl) rfl ?_
    clear E a; intro a E
    refine WL_nil ?_
    refine T_n ?_
    refine WP_ret ?_
    replace S : St w M1 ((cellI b9 3) x0 :: _) := S
    replace S := S.reSt (C := (cellI b9 3)) (s' := drG s9 x0) (by (first | rfl | (simp_all [drF, drG, inR]; done) | (unfold drF inR; simp_all; done)))
    exact F_ret1 E Try.results104 rfl ⟨_, rfl, M1, _, (Hp.le.refl _), ⟨(congrArg (Value.bool) (show false = drF n1 s9 x0 by (first | rfl | (simp_all [drF, drG, inR]; done) | (unfold drF inR; simp_all; done)))), rfl⟩, S⟩

set_option maxRecDepth 100000 in
set_option maxHeartbeats 4000000 in
theorem lo_DropByIndex {M : Hp} {v0 v1 : Value} {l0 l1 : List Int} (h0 : RdI M v0 l0) (h1 : RdI M v1 l1) (hr1 : I64R l1) (hb : l0.length ≤ 1000000) (hb1 : l1.length ≤ 1000000) :
    Pu Try.prog (.func (.func 80) #[] #[]) M [v0, v1] (fun r M' => RdI M' r (wnthL l0 ((l1).map (adjN (l0).length)))) := by
  refine Pu_enter Try.func80 rfl Try.ntmps80 rfl Try.call80 ?_
  intro a w M1 H hM1 S E
  replace h0 := h0.le hM1
  replace h1 := h1.le hM1
  have b0 := h0.bound
  have b1 := h1.bound
  have hA : I64R (l1.map (adjN l0.length)) := adj_rng hb hr1
  have hdl := dbD_len hb hA
  have hal : (l1.map (adjN l0.length)).length = l1.length := List.length_map _
  have hnl : ([] ++ l1 : List Int).length = l1.length := rfl
  have hsr := srtM_len (l1.map (adjN l0.length))
  refine WP_seq ?_
  refine WP_region ?_
  refine S_v E rfl (R_assign E rfl) rfl ?_
  clear E a; intro a E
  refine WL_nil ?_
  refine T_n ?_
  refine WP_seq ?_
  refine WP_region ?_
  refine S_v E rfl (R_move E rfl) rfl ?_
  clear E a; intro a E
  refine S_v E rfl (R_lenV E rfl T22 h0.len) rfl ?_
  clear E a; intro a E
  refine S_x (X_alloc (cs := #[.int .i64 0]) E S rfl Try.zeroValue3 rfl ?_)
  clear E a S; rintro a w b_1 E S
  refine S_x0 (X_store E S rfl rfl (Try.sizeOf3 _) rfl ?_)
  clear E a S; rintro a w E S
  refine WL_nil ?_
  refine T_n ?_
  refine WP_seq ?_
  refine WP_seq ?_
  refine WP_region ?_
  refine S_v E rfl (R_load E rfl (Try.isAgg3 _) (cell_blk (S.mem (.head _)))) rfl ?_
  clear E a; intro a E
  refine S_v E rfl (R_eql E rfl rfl) rfl ?_
  clear E a; intro a E
  refine WL_nil ?_
  refine T_n ?_
  refine WP_cond E rfl (fun hc_2 => ?_) (fun hc_2 => ?_)
  · replace hc_2 := of_decide_eq_true hc_2
    refine WP_seq ?_
    refine WP_region ?_
    refine S_x (X_buildI (ys := []) E S rfl T22 rfl rfl rfl ?_)
    clear E a S; rintro a w v_3 E S
    refine S_v E rfl (R_assign E rfl) rfl ?_
    clear E a; intro a E
    refine WL_nil ?_
    refine T_n ?_
    refine WP_ret ?_
    refine T_r ?_
    have S0 := S; clear S
    obtain ⟨M_4, hM_4, hz_5, S⟩ := S0.freezeI (by (first | omega | (simp; done) | (simp; omega)))
    clear S0
    replace h0 := h0.le hM_4
    replace h1 := h1.le hM_4
    exact F_ret1 E Try.results80 rfl ⟨_, rfl, M_4, hM_4, (by rw [show (wnthL l0 ((l1).map (adjN (l0).length))) = ([] : List Int) from by (have e := List.eq_nil_of_length_eq_zero (l := l0) (by omega); subst e; rfl)]; exact hz_5), S.drop⟩
  · replace hc_2 := of_decide_eq_false hc_2
    refine WP_skip ?_
    refine T_n ?_
    refine WP_seq ?_
    refine WP_region ?_
    refine S_v E rfl (R_move E rfl) rfl ?_
    clear E a; intro a E
    refine S_v E rfl (R_lenV E rfl T22 h1.len) rfl ?_
    clear E a; intro a E
    refine S_x (X_make0 (k := (l1).length) E S rfl rfl rfl T22 rfl (by omega) (by omega) (by omega) ?_)
    clear E a S; rintro a w v_6 E S
    replace S := S.made0
    refine S_v E rfl (R_move E rfl) rfl ?_
    clear E a; intro a E
    refine S_x (X_appendI (xs := ([] : List Int)) E S rfl rfl rfl T22 h1 (by first | omega | (simp; done) | (simp; omega) | (simp_all; omega)) ?_)
    clear E a S; rintro a w v_7 E S
    refine S_v E rfl (R_assign E rfl) rfl ?_
    clear E a; intro a E
    refine WL_nil ?_
    refine T_n ?_
    refine WP_seq ?_
    refine WP_seq ?_
    refine WP_region ?_
    refine S_v E rfl (R_move E rfl) rfl ?_
    clear E a; intro a E
    refine S_v E rfl (R_lenV E rfl T22 S.lenC) rfl ?_
    clear E a; intro a E
    refine S_v E rfl (R_move E rfl) rfl ?_
    clear E a; intro a E
    refine WL_nil ?_
    refine T_n ?_
    refine WP_block ?_
    replace S := S.re1 (l' := (l1.take 0).map (adjN l0.length) ++ l1.drop 0) (by first | (simp; done) | exact adj_yes (by omega) (by assumption) (by assumption) | exact adj_no (by omega) (by assumption) (by assumption))
    refine WP_loop (γ := Nat) (fun (k : Nat) a w => ∃ (M_8 : Hp), Hp.le M1 M_8 ∧ St w M_8 (OwnI 3 v_7 ((l1.take k).map (adjN l0.length) ++ l1.drop k) :: blk b_1 (.cells #[.int .i64 (((l0).length : Nat) : Int)] 3) :: H) ∧ Env a 70 [] [(0, v0), (1, v_7), (5, .pointer (some ⟨b_1, 0, none⟩)), (23, v_7), (24, .int .i64 ((([] ++ l1).length : Nat) : Int)), (25, .int .i64 ((k : Nat) : Int))] ∧ (k ≤ ([] ++ l1).length)) (fun k => (([] ++ l1).length) - k) 0 ⟨M1, Hp.le.refl _, S, E.keep ⟨rfl, rfl, rfl, rfl, rfl, rfl, trivial⟩, by ((try clear S); (try clear E); first | assumption | omega | rfl | (simp; done) | (simp_all; done) | (simp [List.take_add_one, *]; done) | grind [List.take_add_one])⟩ ?_
    try clear E
    try clear S
    try clear a
    try clear w
    rintro k a w ⟨M_8, hM_8, S, E, hL0_0⟩
    replace h0 := h0.le hM_8
    replace h1 := h1.le hM_8
    have hlk : ((l1.take k).map (adjN l0.length) ++ l1.drop k).length = l1.length := by simp; omega
    refine WP_seq ?_
    refine WP_region ?_
    refine S_v E rfl (R_lss E rfl rfl) rfl ?_
    clear E a; intro a E
    refine WL_nil ?_
    refine T_n ?_
    refine WP_seq ?_
    refine WP_cond E rfl (fun hc_9 => ?_) (fun hc_9 => ?_)
    · replace hc_9 := of_decide_eq_true hc_9
      refine WP_skip ?_
      refine T_n ?_
      refine WP_seq ?_
      refine WP_block ?_
      refine WP_seq ?_
      refine WP_region ?_
      refine S_v E rfl (R_move E rfl) rfl ?_
      clear E a; intro a E
      obtain ⟨p_10, hp_10⟩ := S.ptrC (k := k) (by first | omega | (simp; done) | (simp; omega) | (simp_all; omega))
      refine S_v E rfl (R_idx E rfl rfl T22 hp_10 rfl) rfl ?_
      clear E a; intro a E
      obtain ⟨x_11, hx_11⟩ : ∃ x, ((l1.take k).map (adjN l0.length) ++ l1.drop k)[k]? = some x := ⟨_, List.getElem?_eq_getElem (by first | omega | (simp; done) | (simp; omega) | (simp_all; omega))⟩
      refine S_v E rfl (R_load E rfl (Try.isAgg3 _) (S.cellI hp_10 hx_11)) rfl ?_
      clear E a; intro a E
      refine S_v E rfl (R_assign E rfl) rfl ?_
      clear E a; intro a E
      refine S_v E rfl (R_assign E rfl) rfl ?_
      clear E a; intro a E
      refine WL_nil ?_
      refine T_n ?_
      refine WP_seq ?_
      refine WP_region ?_
      refine S_v E rfl (R_move E rfl) rfl ?_
      clear E a; intro a E
      refine S_v E rfl (R_lss E rfl rfl) rfl ?_
      clear E a; intro a E
      refine WL_nil ?_
      refine T_n ?_
      refine WP_cond E rfl (fun hc_12 => ?_) (fun hc_12 => ?_)
      · replace hc_12 := of_decide_eq_true hc_12
        replace S := S.mono_heap (w' := World.drew _) rfl
        refine WP_drawn (C := fun x w => agree M_8 w ∧ (x = 4 → w.heap[b_1]? = some (.cells #[.int .i64 (((l0).length : Nat) : Int)] 3)) ∧ (x = 3 → w.cell? p_10 = some (.int .i64 x_11))) (bf := (fun i => bif Nat.beq i 7 then [4, 3] else [])) [0, 1, 2, 3, 4, 5, 6] [0, 1, 2, 3, 4, 5, 6, 7] Try.mixed (by kernel_rfl) (fun x hq => ⟨S.imm, fun _ => (S.mem (.tail _ (.head _))), fun _ => S.cellI hp_10 hx_11⟩) ?_
        refine D_v E rfl rfl rfl (fun w hC => (R_move E rfl)) ?_
        clear E a; intro a E
        refine D_v E rfl rfl rfl (fun w hC => (R_move E rfl)) ?_
        clear E a; intro a E
        refine D_v E rfl rfl rfl (fun w hC => (R_idx E rfl rfl T22 hp_10 rfl)) ?_
        clear E a; intro a E
        refine D_v E rfl rfl rfl (fun w hC => (R_load E rfl (Try.isAgg3 _) (hC.2.2 rfl))) ?_
        clear E a; intro a E
        refine D_v E rfl rfl rfl (fun w hC => (R_load E rfl (Try.isAgg3 _) (cell_blk (hC.2.1 rfl)))) ?_
        clear E a; intro a E
        refine D_v E rfl rfl rfl (fun w hC => (R_addx (m := x_11 + (((l0).length : Nat) : Int)) E rfl rfl (by (have h8 := adj_get (n := l0.length) (l := l1) (k := k) (by omega) (by assumption); have h9 := hr1 _ (List.mem_of_getElem? h8); omega)) (by (have h8 := adj_get (n := l0.length) (l := l1) (k := k) (by omega) (by assumption); have h9 := hr1 _ (List.mem_of_getElem? h8); omega)))) ?_
        clear E a; intro a E
        refine D_v E rfl rfl rfl (fun w hC => (R_idx E rfl rfl T22 hp_10 rfl)) ?_
        clear E a; intro a E
        refine D_x rfl rfl rfl (X_storeI E S rfl rfl (Try.sizeOf3 _) hp_10 ?_)
        clear E a S; rintro a w E S
        refine ⟨fun x hq hb => ⟨(agree_le (Hp.le.refl _) S.imm), (fun e => by subst e; exact absurd hb (by decide)), (fun e => by subst e; exact absurd hb (by decide))⟩, ?_⟩
        refine D_end (NoP_n ?_)
        refine B_n ?_
        refine T_n ?_
        refine WP_region ?_
        refine S_v E rfl (R_addx (m := ((k + 1 : Nat) : Int)) E rfl rfl (by omega) (by omega)) rfl ?_
        clear E a; intro a E
        refine S_v E rfl (R_move E rfl) rfl ?_
        clear E a; intro a E
        refine WL_nil ?_
        refine T_n ?_
        replace S := S.re1 (l' := (l1.take (k + 1)).map (adjN l0.length) ++ l1.drop (k + 1)) (by first | (simp; done) | exact adj_yes (by omega) (by assumption) (by assumption) | exact adj_no (by omega) (by assumption) (by assumption))
        exact ⟨k + 1, ⟨M_8, hM_8, S, E.keep ⟨rfl, rfl, rfl, rfl, rfl, rfl, trivial⟩, by ((try clear S); (try clear E); first | assumption | omega | rfl | (simp; done) | (simp_all; done) | (simp [List.take_add_one, *]; done) | grind [List.take_add_one])⟩, by omega⟩
      · replace hc_12 := of_decide_eq_false hc_12
        refine WP_skip ?_
        refine B_n ?_
        refine T_n ?_
        refine WP_region ?_
        refine S_v E rfl (R_addx (m := ((k + 1 : Nat) : Int)) E rfl rfl (by omega) (by omega)) rfl ?_
        clear E a; intro a E
        refine S_v E rfl (R_move E rfl) rfl ?_
        clear E a; intro a E
        refine WL_nil ?_
        refine T_n ?_
        replace S := S.re1 (l' := (l1.take (k + 1)).map (adjN l0.length) ++ l1.drop (k + 1)) (by first | (simp; done) | exact adj_yes (by omega) (by assumption) (by assumption) | exact adj_no (by omega) (by assumption) (by assumption))
        exact ⟨k + 1, ⟨M_8, hM_8, S, E.keep ⟨rfl, rfl, rfl, rfl, rfl, rfl, trivial⟩, by ((try clear S); (try clear E); first | assumption | omega | rfl | (simp; done) | (simp_all; done) | (simp [List.take_add_one, *]; done) | grind [List.take_add_one])⟩, by omega⟩
    · replace hc_9 := of_decide_eq_false hc_9
      refine WP_exit ?_
      refine T_x ?_
      refine T_x ?_
      refine B_x ?_
      refine T_n ?_
      refine WP_seq ?_
      refine WP_region ?_
      refine S_v E rfl (R_move E rfl) rfl ?_
      clear E a; intro a E
      replace S := S.re1 (l' := l1.map (adjN l0.length)) (by (rw [List.take_of_length_le (by omega), List.drop_eq_nil_of_le (by omega), List.append_nil]))
      refine S_x (X_sp (p := [OwnI 3 v_7 (l1.map (adjN l0.length))]) E S rfl rfl rfl (sort_Ints (by (first | omega | (simp; omega) | (simp; done) | (simp_all; omega) | grind))) (Hp.le.refl _) ?_)
      clear E a S; rintro a v_14 w M_13 _ hM_13 rfl S E
      replace S : St w M_13 (OwnI 3 v_7 (srtM (l1.map (adjN l0.length))) :: _) := S
      replace h0 := h0.le hM_13
      replace h1 := h1.le hM_13
      refine WL_nil ?_
      refine T_n ?_
      refine WP_seq ?_
      refine WP_region ?_
      refine S_x (X_alloc (cs := #[.int .i64 0]) E S rfl Try.zeroValue3 rfl ?_)
      clear E a S; rintro a w b_15 E S
      refine S_x0 (X_store E S rfl rfl (Try.sizeOf3 _) rfl ?_)
      clear E a S; rintro a w E S
      refine WL_nil ?_
      refine T_n ?_
      refine WP_seq ?_
      refine WP_region ?_
      refine S_v E rfl (R_move E rfl) rfl ?_
      clear E a; intro a E
      replace S := S.front2
      have S0 := S; clear S
      obtain ⟨M_16, hM_16, hb_17, S⟩ := S0.freezeB
      clear S0
      replace h0 := h0.le hM_16
      replace h1 := h1.le hM_16
      refine S_v E rfl (R_makeFunc E rfl rfl) rfl ?_
      clear E a; intro a E
      replace S : St w M_16 ((cellI b_15 3) (-1) :: _) := S
      replace S := S.front1
      refine S_x (X_sp (p := [OwnI 3 v_7 (srtM (l1.map (adjN l0.length))), (cellI b_15 3) (-1)]) E S rfl rfl rfl (mutable_Filter_st (C1 := (cellI b_15 3)) (f1 := (drF ((l0).length))) (g1 := drG) ⟨rfl, fun s_ zx0 => lo_DropByIndex1 (s9 := s_) (b9 := b_15) (x0 := zx0) (n1 := (l0).length) hb_17⟩ (by (first | omega | (simp; omega) | (simp; done) | (simp_all; omega) | grind))) (Hp.le.refl _) ?_)
      clear E a S; rintro a v_19 w M_18 _ hM_18 ⟨rfl, hv_19⟩ S E
      replace S : St w M_18 (H) := S
      replace hv_19 : RdI M_18 v_19 (dbD l0.length (l1.map (adjN l0.length))) := hv_19
      replace h0 := h0.le hM_18
      replace h1 := h1.le hM_18
      replace hb_17 := hM_18.2 _ _ hb_17
      refine S_v E rfl (R_assign E rfl) rfl ?_
      clear E a; intro a E
      refine WL_nil ?_
      refine T_n ?_
      refine WP_seq ?_
      refine WP_region ?_
      refine S_v E rfl (R_loadM E rfl Try.isAgg3 S.imm (cellM_box hb_17)) rfl ?_
      clear E a; intro a E
      refine S_v E rfl (R_move E rfl) rfl ?_
      clear E a; intro a E
      refine S_v E rfl (R_lenV E rfl T22 hv_19.len) rfl ?_
      clear E a; intro a E
      refine S_v E rfl (R_subx (m := (((l0).length - ((dbD l0.length (l1.map (adjN l0.length))).length) : Nat) : Int)) E rfl rfl (by omega) (by omega)) rfl ?_
      clear E a; intro a E
      refine S_x (X_make0 (k := (l0).length - ((dbD l0.length (l1.map (adjN l0.length))).length)) E S rfl rfl rfl T22 rfl (by omega) (by omega) (by omega) ?_)
      clear E a S; rintro a w v_20 E S
      replace S := S.made0
      refine S_v E rfl (R_assign E rfl) rfl ?_
      clear E a; intro a E
      refine WL_nil ?_
      refine T_n ?_
      refine WP_seq ?_
      refine WP_region ?_
      refine S_v E rfl (R_assign E rfl) rfl ?_
      clear E a; intro a E
      refine WL_nil ?_
      refine T_n ?_
      refine WP_seq ?_
      refine WP_seq ?_
      refine WP_region ?_
      refine S_v E rfl (R_move E rfl) rfl ?_
      clear E a; intro a E
      refine S_v E rfl (R_lenV E rfl T22 hv_19.len) rfl ?_
      clear E a; intro a E
      refine S_v E rfl (R_move E rfl) rfl ?_
      clear E a; intro a E
      refine WL_nil ?_
      refine T_n ?_
      refine WP_block ?_
      replace S := S.re1 (l' := (sgA l0 ((dbD l0.length (l1.map (adjN l0.length))).take 0)).1) (by first | rfl | (rw [take_snoc (by assumption), sgA_snoc]; done))
      refine WP_loop (γ := Nat) (fun (k : Nat) a w => ∃ (M_21 : Hp) (u9 : Value), Hp.le M_18 M_21 ∧ St w M_21 (OwnI 3 u9 ((sgA l0 ((dbD l0.length (l1.map (adjN l0.length))).take k)).1) :: H) ∧ Env a 70 [] [(0, v0), (9, u9), (10, .int .i64 (((sgA l0 ((dbD l0.length (l1.map (adjN l0.length))).take k)).2 : Nat) : Int)), (50, v_19), (51, .int .i64 (((dbD l0.length (l1.map (adjN l0.length))).length : Nat) : Int)), (52, .int .i64 ((k : Nat) : Int))] ∧ (k ≤ (dbD l0.length (l1.map (adjN l0.length))).length)) (fun k => ((dbD l0.length (l1.map (adjN l0.length))).length) - k) 0 ⟨M_18, _, Hp.le.refl _, S, E.keep ⟨rfl, rfl, look_nat (i := 0) rfl (by (rfl)), rfl, rfl, rfl, trivial⟩, by ((try clear S); (try clear E); first | assumption | omega | rfl | (simp; done) | (simp_all; done) | (simp [List.take_add_one, *]; done) | grind [List.take_add_one])⟩ ?_
      try clear E
      try clear S
      try clear a
      try clear w
      rintro k a w ⟨M_21, u9, hM_21, S, E, hL1_0⟩
      replace h0 := h0.le hM_21
      replace h1 := h1.le hM_21
      replace hb_17 := hM_21.2 _ _ hb_17
      replace hv_19 := hv_19.le hM_21
      have hsb := sg_bnd (l := l0) (A := l1.map (adjN l0.length)) k hb hA
      refine WP_seq ?_
      refine WP_region ?_
      refine S_v E rfl (R_lss E rfl rfl) rfl ?_
      clear E a; intro a E
      refine WL_nil ?_
      refine T_n ?_
      refine WP_seq ?_
      refine WP_cond E rfl (fun hc_22 => ?_) (fun hc_22 => ?_)
      · replace hc_22 := of_decide_eq_true hc_22
        refine WP_skip ?_
        refine T_n ?_
        refine WP_seq ?_
        refine WP_block ?_
        refine WP_seq ?_
        refine WP_region ?_
        obtain ⟨x_23, hx_23⟩ : ∃ x, (dbD l0.length (l1.map (adjN l0.length)))[k]? = some x := ⟨_, List.getElem?_eq_getElem (by first | omega | (simp; done) | (simp; omega) | (simp_all; omega))⟩
        obtain ⟨p_24, hp_24, qp_24⟩ := hv_19.at hx_23
        refine S_v E rfl (R_idx E rfl rfl T22 hp_24 rfl) rfl ?_
        clear E a; intro a E
        refine S_v E rfl (R_loadM E rfl Try.isAgg3 S.imm qp_24) rfl ?_
        clear E a; intro a E
        refine S_v E rfl (R_assign E rfl) rfl ?_
        clear E a; intro a E
        refine WL_nil ?_
        refine T_n ?_
        refine WP_seq ?_
        refine WP_region ?_
        refine S_v E rfl (R_move E rfl) rfl ?_
        clear E a; intro a E
        refine S_v E rfl (R_move E rfl) rfl ?_
        clear E a; intro a E
        refine S_v E rfl (R_move E rfl) rfl ?_
        clear E a; intro a E
        refine S_v E rfl (R_move E rfl) rfl ?_
        clear E a; intro a E
        have h9 := sg_at (l := l0) (A := l1.map (adjN l0.length)) (k := k) hb hA (by assumption)
        obtain ⟨v_25, sv_25, hv_25⟩ := h0.subv ((sgA l0 ((dbD l0.length (l1.map (adjN l0.length))).take k)).2) ((x_23).toNat) (by (have h9 := sg_at (l := l0) (A := l1.map (adjN l0.length)) (k := k) hb hA (by assumption); omega)) (by (have h9 := sg_at (l := l0) (A := l1.map (adjN l0.length)) (k := k) hb hA (by assumption); omega))
        replace hv_25 : RdI M_21 v_25 (((l0).take ((x_23).toNat)).drop ((sgA l0 ((dbD l0.length (l1.map (adjN l0.length))).take k)).2)) := hv_25
        refine S_v E rfl (R_sliceLH E rfl rfl rfl T22 sv_25 (by omega) (by omega)) rfl ?_
        clear E a; intro a E
        refine S_x (X_appendI (xs := (sgA l0 ((dbD l0.length (l1.map (adjN l0.length))).take k)).1) E S rfl rfl rfl T22 hv_25 (by first | omega | (simp; done) | (simp; omega) | (simp_all; omega)) ?_)
        clear E a S; rintro a w v_26 E S
        refine S_v E rfl (R_assign E rfl) rfl ?_
        clear E a; intro a E
        refine WL_nil ?_
        refine T_n ?_
        refine WP_region ?_
        refine S_v E rfl (R_move E rfl) rfl ?_
        clear E a; intro a E
        refine S_v E rfl (R_addx (m := x_23 + 1) E rfl rfl (by omega) (by omega)) rfl ?_
        clear E a; intro a E
        refine S_v E rfl (R_assign E rfl) rfl ?_
        clear E a; intro a E
        refine WL_nil ?_
        refine B_n ?_
        refine T_n ?_
        refine WP_region ?_
        refine S_v E rfl (R_addx (m := ((k + 1 : Nat) : Int)) E rfl rfl (by omega) (by omega)) rfl ?_
        clear E a; intro a E
        refine S_v E rfl (R_move E rfl) rfl ?_
        clear E a; intro a E
        refine WL_nil ?_
        refine T_n ?_
        replace S := S.re1 (l' := (sgA l0 ((dbD l0.length (l1.map (adjN l0.length))).take (k + 1))).1) (by first | rfl | (rw [take_snoc (by assumption), sgA_snoc]; done))
        exact ⟨k + 1, ⟨M_21, _, hM_21, S, E.keep ⟨rfl, rfl, look_int (i := x_23 + 1) rfl (by (rw [take_snoc (by assumption), sgA_snoc]; have h9 := sg_at (l := l0) (A := l1.map (adjN l0.length)) (k := k) hb hA (by assumption); show (_ : Int) = (((_ : Nat) + 1 : Nat) : Int); omega)), rfl, rfl, rfl, trivial⟩, by ((try clear S); (try clear E); first | assumption | omega | rfl | (simp; done) | (simp_all; done) | (simp [List.take_add_one, *]; done) | grind [List.take_add_one])⟩, by omega⟩
      · replace hc_22 := of_decide_eq_false hc_22
        refine WP_exit ?_
        refine T_x ?_
        refine T_x ?_
        refine B_x ?_
        refine T_n ?_
        refine WP_seq ?_
        refine WP_region ?_
        refine S_v E rfl (R_move E rfl) rfl ?_
        clear E a; intro a E
        refine S_v E rfl (R_move E rfl) rfl ?_
        clear E a; intro a E
        refine S_v E rfl (R_move E rfl) rfl ?_
        clear E a; intro a E
        obtain ⟨v_27, sv_27, hv_27⟩ := h0.subv ((sgA l0 ((dbD l0.length (l1.map (adjN l0.length))).take k)).2) ((l0).length) (by first | omega | (simp; done) | (simp; omega) | (simp_all; omega)) (by first | omega | (simp; done) | (simp; omega) | (simp_all; omega))
        simp only [List.take_length] at hv_27
        replace hv_27 : RdI M_21 v_27 ((l0).drop ((sgA l0 ((dbD l0.length (l1.map (adjN l0.length))).take k)).2)) := hv_27
        refine S_v E rfl (R_sliceL E rfl rfl T22 h0.len sv_27 (by omega)) rfl ?_
        clear E a; intro a E
        refine S_x (X_appendI (xs := (sgA l0 ((dbD l0.length (l1.map (adjN l0.length))).take k)).1) E S rfl rfl rfl T22 hv_27 (by first | omega | (simp; done) | (simp; omega) | (simp_all; omega)) ?_)
        clear E a S; rintro a w v_28 E S
        refine S_v E rfl (R_assign E rfl) rfl ?_
        clear E a; intro a E
        refine WL_nil ?_
        refine T_n ?_
        refine WP_ret ?_
        have S0 := S; clear S
        obtain ⟨M_29, hM_29, hz_30, S⟩ := S0.freezeI (by (first | omega | (simp; done) | (simp; omega)))
        clear S0
        replace h0 := h0.le hM_29
        replace h1 := h1.le hM_29
        replace hb_17 := hM_29.2 _ _ hb_17
        replace hv_19 := hv_19.le hM_29
        replace hv_27 := hv_27.le hM_29
        exact F_ret1 E Try.results80 rfl ⟨_, rfl, M_29, (hM_8.trans (hM_13.trans (hM_16.trans (hM_18.trans (hM_21.trans hM_29))))), (by rw [show (wnthL l0 ((l1).map (adjN (l0).length))) = (((sgA l0 ((dbD l0.length (l1.map (adjN l0.length))).take k)).1) ++ ((l0).drop ((sgA l0 ((dbD l0.length (l1.map (adjN l0.length))).take k)).2))) from by (rw [List.take_of_length_le (show (dbD l0.length (l1.map (adjN l0.length))).length ≤ k by omega)]; first | exact db_end hb hA | exact (db_end hb hA).symm)]; exact hz_30), S⟩

set_option maxRecDepth 100000 in
set_option maxHeartbeats 4000000 in
theorem impl_DropByIndex {M : Hp} {v0 v1 : Value} {l0 l1 : List Int} (h0 : RdI M v0 l0) (h1 : RdI M v1 l1) (hr1 : I64R l1) (hb : l0.length ≤ 1000000) (hb1 : l1.length ≤ 1000000) :
    Pu Try.prog (.func (.func 42) #[] #[]) M [v0, v1] (fun r M' => RdI M' r (wnthL l0 ((l1).map (adjN (l0).length)))) := by
  refine Pu_enter Try.func42 rfl Try.ntmps42 rfl Try.call42 ?_
  intro a w M1 H hM1 S E
  replace h0 := h0.le hM1
  replace h1 := h1.le hM1
  have b0 := h0.bound
  have b1 := h1.bound
  refine WP_seq ?_
  refine WP_region ?_
  refine S_v E rfl (R_assign E rfl) rfl ?_
  clear E a; intro a E
  refine WL_nil ?_
  refine T_n ?_
  refine WP_seq ?_
  refine WP_region ?_
  refine S_v E rfl (R_move E rfl) rfl ?_
  clear E a; intro a E
  refine S_v E rfl (R_move E rfl) rfl ?_
  clear E a; intro a E
  refine S_x (X_pu E S rfl rfl rfl (lo_DropByIndex h0 h1 (by assumption) (by first | omega | (simp; done) | (simp; omega)) (by first | omega | (simp; done) | (simp; omega))) (Hp.le.refl _) ?_)
  clear E a S; rintro a v_2 w M_1 hM_1 hv_2 S E
  replace h0 := h0.le hM_1
  replace h1 := h1.le hM_1
  refine S_v E rfl (R_assign E rfl) rfl ?_
  clear E a; intro a E
  refine WL_nil ?_
  refine T_n ?_
  refine WP_ret ?_
  exact F_ret1 E Try.results42 rfl ⟨_, rfl, M_1, hM_1, hv_2, S⟩

set_option maxRecDepth 100000 in
set_option maxHeartbeats 4000000 in
theorem slices_Values1 {M : Hp} {v0 : Value} {l0 : List Int} (h0 : RdI M v0 l0){bx1 : Nat} (hbx1 : M bx1 = some (.cells #[v0] 22)) :
    SeqV Try.prog (.func (.func 100) #[] #[.pointer (some ⟨bx1, 0, none⟩)]) M (RInt) l0 := by
  refine SeqV_enter Try.func100 rfl Try.ntmps100 rfl Try.call100 ?_
  intro y J X a w M1 c H hJM hM1 hY hJ S E
  replace hbx1 := hM1.2 _ _ hbx1
  replace h0 := h0.le hM1
  have b0 := h0.bound
  refine WP_seq ?_
  refine WP_region ?_
  refine S_v E rfl (R_loadM E rfl Try.isAgg22 S.imm (cellM_box hbx1)) rfl ?_
  clear E a; intro a E
  refine S_v E rfl (R_lenV E rfl T22 h0.len) rfl ?_
  clear E a; intro a E
  refine S_v E rfl (R_move E rfl) rfl ?_
  clear E a; intro a E
  refine WL_nil ?_
  refine T_n ?_
  refine WP_block ?_
  refine WP_loop (γ := Nat) (fun (k : Nat) a w => ∃ (M_1 : Hp) (cL0 : HProp), Hp.le M1 M_1 ∧ St w M_1 (mks [] :: cL0 :: H) ∧ Env a 16 (([] : List Nat).map mk) [(0, y), (5, v0), (6, .int .i64 (((l0).length : Nat) : Int)), (7, .int .i64 ((k : Nat) : Int))] ∧ (k ≤ (l0).length) ∧ J (l0.take k) M_1 cL0) (fun k => ((l0).length) - k) 0 ⟨M1, _, Hp.le.refl _, S, E.keep ⟨rfl, rfl, rfl, rfl, trivial⟩, by ((try clear S); (try clear E); first | assumption | omega | rfl | (simp; done) | (simp_all; done) | (simp [List.take_add_one, *]; done) | grind [List.take_add_one]), J_eq hJ (by ((try clear S); (try clear E); first | assumption | omega | rfl | (simp; done) | (simp_all; done) | (simp [List.take_add_one, *]; done) | grind [List.take_add_one]))⟩ ?_
  try clear E
  try clear S
  try clear a
  try clear w
  rintro k a w ⟨M_1, cL0, hM_1, S, E, hL0_0, hJ⟩
  replace hbx1 := hM_1.2 _ _ hbx1
  replace h0 := h0.le hM_1
  refine WP_seq ?_
  refine WP_region ?_
  refine S_v E rfl (R_lss E rfl rfl) rfl ?_
  clear E a; intro a E
  refine WL_nil ?_
  refine T_n ?_
  refine WP_seq ?_
  refine WP_cond E rfl (fun hc_2 => ?_) (fun hc_2 => ?_)
  · replace hc_2 := of_decide_eq_true hc_2
    refine WP_skip ?_
    refine T_n ?_
    refine WP_seq ?_
    refine WP_block ?_
    refine WP_seq ?_
    refine WP_region ?_
    obtain ⟨x_3, hx_3⟩ : ∃ x, (l0)[k]? = some x := ⟨_, List.getElem?_eq_getElem (by first | omega | (simp; done) | (simp; omega) | (simp_all; omega))⟩
    obtain ⟨p_4, hp_4, qp_4⟩ := h0.at hx_3
    refine S_v E rfl (R_idx E rfl rfl T22 hp_4 rfl) rfl ?_
    clear E a; intro a E
    refine S_v E rfl (R_loadM E rfl Try.isAgg3 S.imm qp_4) rfl ?_
    clear E a; intro a E
    refine S_v E rfl (R_assign E rfl) rfl ?_
    clear E a; intro a E
    refine WL_nil ?_
    refine T_n ?_
    refine WP_seq ?_
    refine WP_region ?_
    refine S_v E rfl (R_move E rfl) rfl ?_
    clear E a; intro a E
    refine S_v E rfl (R_move E rfl) rfl ?_
    clear E a; intro a E
    replace S := S.front1
    refine S_x (X_yield (x := x_3) E S rfl rfl rfl hY hM_1 (by (first | (simp; done) | exact List.prefix_refl _ | (rw [pre_take (by assumption)]; exact List.take_prefix _ _) | exact pre_take_lt (by assumption))) rfl hJ ?_)
    clear E a S; rintro a w M_5 c_6 go_7 hM_5 hJ S E
    replace hbx1 := hM_5.2 _ _ hbx1
    replace h0 := h0.le hM_5
    cases go_7
    · replace hJ : X (l0.take k ++ [x_3]) M_5 c_6 := hJ
      refine S_v E rfl (R_not E rfl) rfl ?_
      clear E a; intro a E
      refine WL_nil ?_
      refine T_n ?_
      refine WP_condT E rfl rfl ?_
      refine WP_ret ?_
      refine B_r ?_
      refine T_r ?_
      refine T_r ?_
      refine B_r ?_
      replace S := S.front1
      exact F_retM0 E S Try.results100 (fun w S => ⟨_, rfl, M_5, _, (hM_1.trans hM_5), .inr ⟨(l0.take k ++ [x_3]), (by first | assumption | ((first | (simp; done) | exact List.prefix_refl _ | (rw [pre_take (by assumption)]; exact List.take_prefix _ _) | exact pre_take_lt (by assumption)))), hJ⟩, S⟩)
    · replace hJ : J (l0.take k ++ [x_3]) M_5 c_6 := hJ
      refine S_v E rfl (R_not E rfl) rfl ?_
      clear E a; intro a E
      refine WL_nil ?_
      refine T_n ?_
      refine WP_condF E rfl rfl ?_
      refine WP_skip ?_
      refine B_n ?_
      refine T_n ?_
      refine WP_region ?_
      refine S_v E rfl (R_addx (m := ((k + 1 : Nat) : Int)) E rfl rfl (by omega) (by omega)) rfl ?_
      clear E a; intro a E
      refine S_v E rfl (R_move E rfl) rfl ?_
      clear E a; intro a E
      refine WL_nil ?_
      refine T_n ?_
      replace S := S.front1
      exact ⟨k + 1, ⟨M_5, _, (hM_1.trans hM_5), S, E.keep ⟨rfl, rfl, rfl, rfl, trivial⟩, by ((try clear S); (try clear E); first | assumption | omega | rfl | (simp; done) | (simp_all; done) | (simp [List.take_add_one, *]; done) | grind [List.take_add_one]), J_eq hJ (by ((try clear S); (try clear E); first | assumption | omega | rfl | (simp; done) | (simp_all; done) | (simp [List.take_add_one, *]; done) | grind [List.take_add_one]))⟩, by omega⟩
  · replace hc_2 := of_decide_eq_false hc_2
    refine WP_exit ?_
    refine T_x ?_
    refine T_x ?_
    refine B_x ?_
    refine F_nrm ?_
    replace S := S.front1
    replace S := S.front1
    have hpre : l0.take k = l0 := by ((try clear S); (try clear E); first | rfl | (simp; done) | (simp_all; done) | grind [List.take_add_one])
    rw [hpre] at hJ
    exact F_retM0 E S Try.results100 (fun w S => ⟨_, rfl, M_1, _, hM_1, .inl hJ, S⟩)

set_option maxRecDepth 100000 in
set_option maxHeartbeats 4000000 in
theorem slices_Values {M : Hp} {v0 : Value} {l0 : List Int} (h0 : RdI M v0 l0) :
    Pu Try.prog (.func (.func 72) #[] #[]) M [v0] (fun r M' => SeqV Try.prog r M' RInt l0) := by
  refine Pu_enter Try.func72 rfl Try.ntmps72 rfl Try.call72 ?_
  intro a w M1 H hM1 S E
  replace h0 := h0.le hM1
  have b0 := h0.bound
  refine WP_seq ?_
  refine WP_region ?_
  refine S_x (X_box (cs := #[v0]) E S rfl rfl (cells_one (RdS.one' h0)) ?_)
  clear E a S; rintro a w b_1 E S
  obtain ⟨M_2, hM_2, hb_1, S⟩ := S.freezeB
  replace h0 := h0.le hM_2
  refine S_v E rfl (R_assign E rfl) rfl ?_
  clear E a; intro a E
  refine WL_nil ?_
  refine T_n ?_
  refine WP_seq ?_
  refine WP_region ?_
  refine S_v E rfl (R_makeFunc E rfl rfl) rfl ?_
  clear E a; intro a E
  refine S_v E rfl (R_assign E rfl) rfl ?_
  clear E a; intro a E
  refine WL_nil ?_
  refine T_n ?_
  refine WP_ret ?_
  exact F_ret1 E Try.results72 rfl ⟨_, rfl, M_2, hM_2, (SeqV_eq (slices_Values1 h0 hb_1) (by ((try clear S); (try clear E); first | rfl | (simp; done) | (simp_all; done) | grind [List.take_add_one]))), S⟩

set_option maxRecDepth 100000 in
set_option maxHeartbeats 4000000 in
theorem it_RejectI1 {M : Hp} {v0 : Value} {l0 : List Int} (h0 : SeqV Try.prog v0 M (RInt) l0) {v1 : Value} {f1 : Int → Int → Bool} (h1 : PF2B Try.prog v1 M f1) (hb : l0.length ≤ 1000000000000) {bx8 bx9 : Nat} (hbx8 : M bx8 = some (.cells #[v0] 80)) (hbx9 : M bx9 = some (.cells #[v1] 97)) :
    SeqV Try.prog (.func (.func 119) #[] #[.pointer (some ⟨bx8, 0, none⟩), .pointer (some ⟨bx9, 0, none⟩)]) M (RInt) (filtI (fun x i => !f1 x i) 0 l0) := by
  refine SeqV_enter Try.func119 rfl Try.ntmps119 rfl Try.call119 ?_
  intro y J X a w M1 c H hJM hM1 hY hJ S E
  replace h0 := h0.le hM1
  replace h1 := h1.le hM1
  replace hbx8 := hM1.2 _ _ hbx8
  replace hbx9 := hM1.2 _ _ hbx9
  refine WP_seq ?_
  refine WP_region ?_
  refine S_x (X_box (cs := #[y]) E S rfl rfl (cells_one hY.1) ?_)
  clear E a S; rintro a w b_1 E S
  obtain ⟨M_2, hM_2, hb_1, S⟩ := S.freezeB
  replace h0 := h0.le hM_2
  replace h1 := h1.le hM_2
  replace hbx8 := hM_2.2 _ _ hbx8
  replace hbx9 := hM_2.2 _ _ hbx9
  replace hJ := hJM _ _ _ _ hM_2 hJ
  refine WL_nil ?_
  refine T_n ?_
  refine WP_seq ?_
  refine WP_region ?_
  refine S_x (X_alloc (cs := #[.int .i64 0]) E S rfl Try.zeroValue3 rfl ?_)
  clear E a S; rintro a w b_3 E S
  refine WL_nil ?_
  refine T_n ?_
  refine WP_seq ?_
  refine WP_region ?_
  refine S_v E rfl (R_loadM E rfl Try.isAgg80 S.imm (cellM_box hbx8)) rfl ?_
  clear E a; intro a E
  refine WL_nil ?_
  refine T_n ?_
  refine WP_block ?_
  replace S := S.front2
  replace S := S.front1
  replace E := E.keep (l' := [(2, .pointer (some ⟨bx9, 0, none⟩)), (3, .pointer (some ⟨b_1, 0, none⟩)), (4, .pointer (some ⟨b_3, 0, none⟩)), (6, v0)]) ⟨rfl, rfl, rfl, rfl, trivial⟩
  replace S := S.front1
  replace S := S.front1
  replace S := S.blk_int (j := ((([] : List Int)).length : Int)) (by (first | (simp; done) | omega))
  have S0 := S; clear S; have S := St.pack [blk b_3 (.cells #[.int .i64 ((([] : List Int)).length : Int)] 3), c] S0; clear S0
  refine WP_range (RV := RInt) (l := l0) (fun pre M c => ∃ (c0 : HProp), c = bigs [blk b_3 (.cells #[.int .i64 ((pre).length : Int)] 3), c0] ∧ (J (filtI (fun x i => !f1 x i) 0 (pre)) M c0)) (fun cd pre M c => cd = .ret ∧ ∃ z, z <+: (filtI (fun x i => !f1 x i) 0 l0) ∧ X z M c) E S rfl h0 (Hp.le.refl _) (fun _ _ _ h => by rw [h]; rfl) (by decide) (by rintro _ M M' c hM ⟨c0, rfl, f0⟩; exact ⟨_, rfl, hJM _ _ _ _ hM f0⟩) ⟨_, rfl, J_eq hJ (by ((try clear S); (try clear E); first | assumption | omega | rfl | (simp; done) | (simp_all; done) | (simp [List.take_add_one, *]; done) | grind [List.take_add_one]))⟩ ?_ ?_ ?_
  clear E S
  · rintro lb_5 rec_6 pre x _ a w M_4 _ G hM_4 hp_7 rfl ⟨c0, rfl, f0⟩ E S
    replace E : Env a 21 [] [(7, .int .i64 x), (2, .pointer (some ⟨bx9, 0, none⟩)), (3, .pointer (some ⟨b_1, 0, none⟩)), (4, .pointer (some ⟨b_3, 0, none⟩)), (6, v0)] := E
    replace S := S.swap.unpack2
    have hq0 := prefix_lt hp_7
    replace h0 := h0.le hM_4
    replace h1 := h1.le hM_4
    replace hbx8 := hM_4.2 _ _ hbx8
    replace hbx9 := hM_4.2 _ _ hbx9
    replace hb_1 := hM_4.2 _ _ hb_1
    refine WP_region ?_
    refine S_v E rfl (R_assign E rfl) rfl ?_
    clear E a; intro a E
    refine WL_nil ?_
    refine T_n ?_
    replace S := S.front2
    refine rb S ?_
    clear S; intro w S
    refine WP_block ?_
    refine WP_seq ?_
    refine WP_seq ?_
    refine WP_region ?_
    refine S_v E rfl (R_loadM E rfl Try.isAgg97 S.imm (cellM_box hbx9)) rfl ?_
    clear E a; intro a E
    refine S_v E rfl (R_move E rfl) rfl ?_
    clear E a; intro a E
    refine S_v E rfl (R_load E rfl (Try.isAgg3 _) (cell_blk (S.mem (.tail _ (.head _))))) rfl ?_
    clear E a; intro a E
    refine S_x (X_pu E S rfl rfl rfl (h1.2 x ((pre).length : Int)) (Hp.le.refl _) ?_)
    clear E a S; rintro a _ w M_9 hM_9 rfl S E
    replace h0 := h0.le hM_9
    replace h1 := h1.le hM_9
    replace hbx8 := hM_9.2 _ _ hbx8
    replace hbx9 := hM_9.2 _ _ hbx9
    replace hb_1 := hM_9.2 _ _ hb_1
    replace f0 := hJM _ _ _ _ hM_9 f0
    refine S_v E rfl (R_not E rfl) rfl ?_
    clear E a; intro a E
    refine S_v E rfl (R_move E rfl) rfl ?_
    clear E a; intro a E
    refine split_bool (!(f1 x ((pre).length : Int))) (fun hc_10 => ?_) (fun hc_10 => ?_)
    · replace E := E.val (t := 12) rfl hc_10
      replace E := E.val (t := 13) rfl hc_10
      refine WL_guard_yes E rfl rfl ?_
      refine S_v E rfl (R_loadM E rfl Try.isAgg103 S.imm (cellM_box hb_1)) rfl ?_
      clear E a; intro a E
      refine WL_guard_yes E rfl rfl ?_
      refine S_v E rfl (R_move E rfl) rfl ?_
      clear E a; intro a E
      replace S := S.front2
      refine WL_guard_yes E rfl rfl ?_
      refine S_x (X_yield (x := x) E S rfl rfl rfl hY (hM_2.trans (hM_4.trans hM_9)) (by exact filtI_prefix (by assumption) (by first | assumption | (simp_all; done))) rfl f0 ?_)
      clear E a S; rintro a w M_11 c_12 go_13 hM_11 f0 S E
      replace h0 := h0.le hM_11
      replace h1 := h1.le hM_11
      replace hbx8 := hM_11.2 _ _ hbx8
      replace hbx9 := hM_11.2 _ _ hbx9
      replace hb_1 := hM_11.2 _ _ hb_1
      cases go_13
      · replace f0 : X (filtI (fun x i => !f1 x i) 0 (pre) ++ [x]) M_11 c_12 := f0
        refine WL_guard_yes E rfl rfl ?_
        refine S_v E rfl (R_not E rfl) rfl ?_
        clear E a; intro a E
        refine S_v E rfl (R_pickT E rfl rfl) rfl ?_
        clear E a; intro a E
        refine WL_nil ?_
        refine T_n ?_
        refine WP_condT E rfl rfl ?_
        refine WP_ret ?_
        refine T_r ?_
        refine B_r ?_
        replace S := S.front2
        replace S := S.drop
        replace S := S.front1
        exact ⟨M_11, _, (hM_9.trans hM_11), ⟨rfl, _, (by first | assumption | (exact filtI_prefix (by assumption) (by first | assumption | (simp_all; done))) | (exact filtI_prefix0 (by assumption))), f0⟩, S⟩
      · replace f0 : J (filtI (fun x i => !f1 x i) 0 (pre) ++ [x]) M_11 c_12 := f0
        refine WL_guard_yes E rfl rfl ?_
        refine S_v E rfl (R_not E rfl) rfl ?_
        clear E a; intro a E
        refine S_v E rfl (R_pickT E rfl rfl) rfl ?_
        clear E a; intro a E
        refine WL_nil ?_
        refine T_n ?_
        refine WP_condF E rfl rfl ?_
        refine WP_skip ?_
        refine T_n ?_
        refine WP_region ?_
        refine S_v E rfl (R_load E rfl (Try.isAgg3 _) (cell_blk (S.mem (.tail _ (.tail _ (.head _)))))) rfl ?_
        clear E a; intro a E
        refine S_v E rfl (R_addx (m := (((pre).length + 1 : Nat) : Int)) E rfl rfl (by omega) (by omega)) rfl ?_
        clear E a; intro a E
        replace S := S.front2
        refine S_x0 (X_store E S rfl rfl (Try.sizeOf3 _) rfl ?_)
        clear E a S; rintro a w E S
        refine WL_nil ?_
        refine B_n ?_
        replace S := S.front1
        replace S := S.front1
        replace S := S.front1
        replace S := S.front1
        replace S := S.blk_int (j := (((pre ++ [x])).length : Int)) (by (first | (simp; done) | omega))
        have S0 := S; clear S; have S := (St.pack [blk b_3 (.cells #[.int .i64 (((pre ++ [x])).length : Int)] 3), c_12] S0).swap; clear S0
        exact ⟨M_11, _, (hM_9.trans hM_11), ⟨_, rfl, J_eq f0 (by (rw [filtI_app1]; first | (simp [*]; done) | (simp_all; done)))⟩, S⟩
    · replace E := E.val (t := 12) rfl hc_10
      replace E := E.val (t := 13) rfl hc_10
      refine WL_guard_no E rfl rfl rfl rfl fun a E => ?_
      refine WL_guard_no E rfl rfl rfl rfl fun a E => ?_
      refine WL_guard_no E rfl rfl rfl rfl fun a E => ?_
      refine WL_guard_no E rfl rfl rfl rfl fun a E => ?_
      refine S_v E rfl (R_pickF E rfl rfl) rfl ?_
      clear E a; intro a E
      refine WL_nil ?_
      refine T_n ?_
      refine WP_condF E rfl rfl ?_
      refine WP_skip ?_
      refine T_n ?_
      refine WP_region ?_
      refine S_v E rfl (R_load E rfl (Try.isAgg3 _) (cell_blk (S.mem (.tail _ (.head _))))) rfl ?_
      clear E a; intro a E
      refine S_v E rfl (R_addx (m := (((pre).length + 1 : Nat) : Int)) E rfl rfl (by omega) (by omega)) rfl ?_
      clear E a; intro a E
      replace S := S.front1
      refine S_x0 (X_store E S rfl rfl (Try.sizeOf3 _) rfl ?_)
      clear E a S; rintro a w E S
      refine WL_nil ?_
      refine B_n ?_
      replace S := S.front2
      replace S := S.front1
      replace S := S.front1
      replace S := S.front1
      replace S := S.blk_int (j := (((pre ++ [x])).length : Int)) (by (first | (simp; done) | omega))
      have S0 := S; clear S; have S := (St.pack [blk b_3 (.cells #[.int .i64 (((pre ++ [x])).length : Int)] 3), c0] S0).swap; clear S0
      exact ⟨M_9, _, hM_9, ⟨_, rfl, J_eq f0 (by (rw [filtI_app1]; first | (simp [*]; done) | (simp_all; done)))⟩, S⟩
  · rintro a w M_14 _ D_15 hM_14 ⟨c0, rfl, f0⟩ S E
    replace S := S.unpack2
    replace h0 := h0.le hM_14
    replace h1 := h1.le hM_14
    replace hbx8 := hM_14.2 _ _ hbx8
    replace hbx9 := hM_14.2 _ _ hbx9
    replace hb_1 := hM_14.2 _ _ hb_1
    refine B_n ?_
    refine F_nrm ?_
    replace S := S.drop
    replace S := S.front1
    have hpre : filtI (fun x i => !f1 x i) 0 (l0) = filtI (fun x i => !f1 x i) 0 l0 := by ((try clear S); (try clear E); first | rfl | (simp; done) | (simp_all; done) | grind [List.take_add_one])
    rw [hpre] at f0
    exact F_retM0 E S Try.results119 (fun w S => ⟨_, rfl, M_14, _, (hM_2.trans hM_14), .inl f0, S⟩)
  · rintro a w M_16 c_ D_17 p_18 _ hM_16 hp_19 ⟨rfl, z_, hz_, f0⟩ S E
    replace h0 := h0.le hM_16
    replace h1 := h1.le hM_16
    replace hbx8 := hM_16.2 _ _ hbx8
    replace hbx9 := hM_16.2 _ _ hbx9
    replace hb_1 := hM_16.2 _ _ hb_1
    refine WP_ret ?_
    refine B_r ?_
    replace S := S.front1
    exact F_retM0 E S Try.results119 (fun w S => ⟨_, rfl, M_16, _, (hM_2.trans hM_16), .inr ⟨z_, (by first | assumption | (exact filtI_prefix0 (by assumption))), f0⟩, S⟩)

set_option maxRecDepth 100000 in
set_option maxHeartbeats 4000000 in
theorem it_RejectI {M : Hp} {v0 : Value} {l0 : List Int} (h0 : SeqV Try.prog v0 M (RInt) l0) {v1 : Value} {f1 : Int → Int → Bool} (h1 : PF2B Try.prog v1 M f1) (hb : l0.length ≤ 1000000000000) :
    Pu Try.prog (.func (.func 106) #[] #[]) M [v0, v1] (fun r M' => SeqV Try.prog r M' RInt (filtI (fun x i => !f1 x i) 0 l0)) := by
  refine Pu_enter Try.func106 rfl Try.ntmps106 rfl Try.call106 ?_
  intro a w M1 H hM1 S E
  replace h0 := h0.le hM1
  replace h1 := h1.le hM1
  refine WP_seq ?_
  refine WP_region ?_
  refine S_x (X_box (cs := #[v0]) E S rfl rfl (cells_one h0.1) ?_)
  clear E a S; rintro a w b_1 E S
  obtain ⟨M_2, hM_2, hb_1, S⟩ := S.freezeB
  replace h0 := h0.le hM_2
  replace h1 := h1.le hM_2
  refine S_x (X_box (cs := #[v1]) E S rfl rfl (cells_one h1.1) ?_)
  clear E a S; rintro a w b_3 E S
  obtain ⟨M_4, hM_4, hb_3, S⟩ := S.freezeB
  replace h0 := h0.le hM_4
  replace h1 := h1.le hM_4
  replace hb_1 := hM_4.2 _ _ hb_1
  refine S_v E rfl (R_assign E rfl) rfl ?_
  clear E a; intro a E
  refine WL_nil ?_
  refine T_n ?_
  refine WP_seq ?_
  refine WP_region ?_
  refine S_v E rfl (R_makeFunc E rfl rfl) rfl ?_
  clear E a; intro a E
  refine S_v E rfl (R_assign E rfl) rfl ?_
  clear E a; intro a E
  refine WL_nil ?_
  refine T_n ?_
  refine WP_ret ?_
  exact F_ret1 E Try.results106 rfl ⟨_, rfl, M_4, (hM_2.trans hM_4), (SeqV_eq (it_RejectI1 (f1 := f1) h0 h1 (by (first | omega | (simp; omega) | (simp; done) | (simp_all; omega) | grind)) hb_1 hb_3) (by ((try clear S); (try clear E); first | rfl | (simp; done) | (simp_all; done) | grind [List.take_add_one]))), S⟩

set_option maxRecDepth 100000 in
set_option maxHeartbeats 4000000 in
theorem lo_HasKey {M : Hp} {m0 : Value} {q0 : List Int} (hm0 : RdM M m0 (Sl.encS q0)){x1 : Int} :
    Pu Try.prog (.func (.func 108) #[] #[]) M [m0, .int .i64 x1] (fun r M' => r = .bool (decide (x1 ∈ q0))) := by
  refine Pu_enter Try.func108 rfl Try.ntmps108 rfl Try.call108 ?_
  intro a w M1 H hM1 S E
  replace hm0 := hm0.le hM1
  refine WP_seq ?_
  refine WP_region ?_
  refine S_v E rfl (R_assign E rfl) rfl ?_
  clear E a; intro a E
  refine WL_nil ?_
  refine T_n ?_
  refine WP_seq ?_
  refine WP_region ?_
  refine S_v E rfl (R_move E rfl) rfl ?_
  clear E a; intro a E
  refine S_v E rfl (R_move E rfl) rfl ?_
  clear E a; intro a E
  refine S_v E rfl (R_lookupFS S.imm hm0 E MT93 rfl rfl) rfl ?_
  clear E a; intro a E
  refine S_v E rfl (R_move E rfl) rfl ?_
  clear E a; intro a E
  refine S_v E rfl (R_extract E rfl rfl) rfl ?_
  clear E a; intro a E
  refine S_v E rfl (R_extract E rfl rfl) rfl ?_
  clear E a; intro a E
  refine S_x (X_alloc (cs := #[]) E S rfl Try.zeroValue98 rfl ?_)
  clear E a S; rintro a w b_1 E S
  refine S_x0 (X_storeG (us := []) E S rfl rfl (Try.sizeOf98 _) rfl (by intro u hu; cases hu) ?_)
  clear E a S; rintro a w E S
  replace S : St w M1 (blk b_1 (.cells #[] 98) :: _) := S
  have S0 := S; clear S
  obtain ⟨M_2, hM_2, hb_3, S⟩ := S0.freezeB
  clear S0
  replace hm0 := hm0.le hM_2
  refine S_v E rfl (R_assign E rfl) rfl ?_
  clear E a; intro a E
  refine WL_nil ?_
  refine T_n ?_
  refine WP_seq ?_
  refine WP_region ?_
  refine S_v E rfl (R_move E rfl) rfl ?_
  clear E a; intro a E
  refine S_v E rfl (R_assign E rfl) rfl ?_
  clear E a; intro a E
  refine WL_nil ?_
  refine T_n ?_
  refine WP_ret ?_
  exact F_ret1 E Try.results108 rfl ⟨_, rfl, M_2, hM_2, rfl, S⟩

set_option maxRecDepth 100000 in
set_option maxHeartbeats 4000000 in
theorem it_WithoutNth1 {M : Hp} {m8 : Value} {q8 : List Int} (hm8 : RdM M m8 (Sl.encS q8)) {x0 x1 : Int} {bx8 : Nat} (hbx8 : M bx8 = some (.cells #[m8] 93)) :
    Pu Try.prog (.func (.func 107) #[] #[.pointer (some ⟨bx8, 0, none⟩)]) M [.int .i64 x0, .int .i64 x1] (fun r M' => r = .bool (decide (x1 ∈ q8))) := by
  refine Pu_enter Try.func107 rfl Try.ntmps107 rfl Try.call107 ?_
  intro a w M1 H hM1 S E
  replace hm8 := hm8.le hM1
  replace hbx8 := hM1.2 _ _ hbx8
  refine WP_seq ?_
  refine WP_region ?_
  refine S_v E rfl (R_assign E rfl) rfl ?_
  clear E a; intro a E
  refine WL_nil ?_
  refine T_n ?_
  refine WP_seq ?_
  refine WP_region ?_
  refine S_v E rfl (R_loadM E rfl Try.isAgg93 S.imm (cellM_box hbx8)) rfl ?_
  clear E a; intro a E
  refine S_v E rfl (R_move E rfl) rfl ?_
  clear E a; intro a E
  refine S_x (X_pu E S rfl rfl rfl (lo_HasKey hm8) (Hp.le.refl _) ?_)
  clear E a S; rintro a _ w M_1 hM_1 rfl S E
  replace hm8 := hm8.le hM_1
  replace hbx8 := hM_1.2 _ _ hbx8
  refine S_v E rfl (R_assign E rfl) rfl ?_
  clear E a; intro a E
  refine WL_nil ?_
  refine T_n ?_
  refine WP_ret ?_
  exact F_ret1 E Try.results107 rfl ⟨_, rfl, M_1, hM_1, rfl, S⟩

set_option maxRecDepth 100000 in
set_option maxHeartbeats 4000000 in
theorem it_WithoutNth {M : Hp} {v0 : Value} {l0 : List Int} (h0 : SeqV Try.prog v0 M (RInt) l0) {v1 : Value} {l1 : List Int} (h1 : RdI M v1 l1) (hb : l0.length ≤ 1000000000000) :
    Pu Try.prog (.func (.func 82) #[] #[]) M [v0, v1] (fun r M' => SeqV Try.prog r M' RInt (wnthL l0 l1)) := by
  refine Pu_enter Try.func82 rfl Try.ntmps82 rfl Try.call82 ?_
  intro a w M1 H hM1 S E
  replace h0 := h0.le hM1
  replace h1 := h1.le hM1
  have b1 := h1.bound
  refine WP_seq ?_
  refine WP_region ?_
  refine S_v E rfl (R_assign E rfl) rfl ?_
  clear E a; intro a E
  refine WL_nil ?_
  refine T_n ?_
  refine WP_seq ?_
  refine WP_region ?_
  refine S_v E rfl (R_move E rfl) rfl ?_
  clear E a; intro a E
  refine S_x (X_sp (p := []) E S rfl rfl rfl (lo_Keyify h1) (Hp.le.refl _) ?_)
  clear E a S; rintro a _ w M_1 _ hM_1 ⟨v_2, rfl, rfl⟩ S E
  replace S : St w M_1 (OwnS v_2 (keyL l1) :: _) := S
  replace h0 := h0.le hM_1
  replace h1 := h1.le hM_1
  refine S_x (X_alloc (cs := #[.map none]) E S rfl Try.zeroValue93 rfl ?_)
  clear E a S; rintro a w b_3 E S
  refine S_x0 (X_store E S rfl rfl (Try.sizeOf93 _) rfl ?_)
  clear E a S; rintro a w E S
  refine WL_nil ?_
  refine T_n ?_
  refine WP_seq ?_
  refine WP_region ?_
  refine S_v E rfl (R_move E rfl) rfl ?_
  clear E a; intro a E
  replace S := S.front1
  have S0 := S; clear S
  obtain ⟨M_4, hM_4, hm_5, S⟩ := S0.freezeM
  clear S0
  replace h0 := h0.le hM_4
  replace h1 := h1.le hM_4
  have S0 := S; clear S
  obtain ⟨M_6, hM_6, hb_7, S⟩ := S0.freezeB
  clear S0
  replace h0 := h0.le hM_6
  replace h1 := h1.le hM_6
  replace hm_5 := hm_5.le hM_6
  refine S_v E rfl (R_makeFunc E rfl rfl) rfl ?_
  clear E a; intro a E
  refine S_x (X_pu E S rfl rfl rfl (it_RejectI h0 ⟨rfl, fun zx0 zx1 => it_WithoutNth1 (x0 := zx0) (x1 := zx1) hm_5 hb_7⟩ (by (first | omega | (simp; omega) | (simp; done) | (simp_all; omega) | grind))) (Hp.le.refl _) ?_)
  clear E a S; rintro a v_9 w M_8 hM_8 hv_9 S E
  replace h0 := h0.le hM_8
  replace h1 := h1.le hM_8
  replace hm_5 := hm_5.le hM_8
  replace hb_7 := hM_8.2 _ _ hb_7
  refine S_v E rfl (R_assign E rfl) rfl ?_
  clear E a; intro a E
  refine WL_nil ?_
  refine T_n ?_
  refine WP_ret ?_
  exact F_ret1 E Try.results82 rfl ⟨_, rfl, M_8, (hM_1.trans (hM_4.trans (hM_6.trans hM_8))), (SeqV_eq hv_9 (by (unfold wnthL; simp only [mem_keyL]))), S⟩

set_option maxRecDepth 100000 in
set_option maxHeartbeats 4000000 in
theorem slices_AppendSeq {M : Hp} {v1 : Value} {l1 : List Int} (h1 : SeqV Try.prog v1 M (RInt) l1)(hb : l1.length ≤ 1000000000000) :
    Pu Try.prog (.func (.func 105) #[] #[]) M [.slice none 0 0, v1] (fun r M' => RdI M' r l1) := by
  refine Pu_enter Try.func105 rfl Try.ntmps105 rfl Try.call105 ?_
  intro a w M1 H hM1 S E
  replace h1 := h1.le hM1
  replace S : St w M1 (mks [] :: _) := S.empty
  replace E : Env a 13 (([] : List Nat).map mk) _ := E
  refine WP_seq ?_
  refine WP_region ?_
  refine S_x (X_box (cs := #[.slice none 0 0]) E S rfl rfl rfl ?_)
  clear E a S; rintro a w b_1 E S
  refine S_v E rfl (R_assign E rfl) rfl ?_
  clear E a; intro a E
  refine WL_nil ?_
  refine T_n ?_
  refine WP_seq ?_
  refine WP_seq ?_
  refine WP_region ?_
  refine S_v E rfl (R_move E rfl) rfl ?_
  clear E a; intro a E
  refine WL_nil ?_
  refine T_n ?_
  refine WP_block ?_
  replace S := (S.ownNil (e := 3) (sz := 1)).made0
  replace S := S.front1
  replace E := E.keep (l' := [(2, .pointer (some ⟨b_1, 0, none⟩)), (6, v1)]) ⟨rfl, rfl, trivial⟩
  replace S := S.front1
  replace S := S.re1 (l' := ([] : List Int)) (by ((try clear S); (try clear E); first | assumption | omega | rfl | (simp; done) | (simp_all; done) | (simp [List.take_add_one, *]; done) | grind [List.take_add_one]))
  replace S := S.front1
  have S0 := S; clear S; have S := St.pack [blk b_1 (.cells #[(.slice none 0 0)] 22), OwnI 3 (.slice none 0 0) ([] : List Int)] S0; clear S0
  refine WP_range (RV := RInt) (l := l1) (fun pre M c => ∃ (u2 : Value), c = bigs [blk b_1 (.cells #[u2] 22), OwnI 3 u2 pre]) (fun _ _ _ _ => False) E S rfl h1 (Hp.le.refl _) (fun _ _ _ h => by rw [h]; rfl) (by decide) (by rintro _ M M' c hM ⟨u2, rfl⟩; exact ⟨_, rfl⟩) ⟨_, rfl⟩ ?_ ?_ ?_
  clear E S
  · rintro lb_4 rec_5 pre x _ a w M_3 _ G hM_3 hp_6 rfl ⟨u2, rfl⟩ E S
    replace E : Env a 13 [] [(7, .int .i64 x), (2, .pointer (some ⟨b_1, 0, none⟩)), (6, v1)] := E
    replace S := S.swap.unpack2
    have hq0 := prefix_lt hp_6
    replace h1 := h1.le hM_3
    refine WP_region ?_
    refine S_v E rfl (R_assign E rfl) rfl ?_
    clear E a; intro a E
    refine WL_nil ?_
    refine T_n ?_
    replace S := S.front2
    refine rb S ?_
    clear S; intro w S
    refine WP_block ?_
    refine WP_region ?_
    refine S_v E rfl (R_load E rfl (Try.isAgg22 _) (cell_blk (S.mem (.tail _ (.head _))))) rfl ?_
    clear E a; intro a E
    refine S_v E rfl (R_move E rfl) rfl ?_
    clear E a; intro a E
    refine S_x (X_buildI (ys := [x]) E S rfl T22 rfl rfl rfl ?_)
    clear E a S; rintro a w v_8 E S
    replace S := S.front3
    replace S := S.front1
    refine S_x (X_appendB (xs := pre) (ys := [x]) E S rfl rfl rfl T22 (by first | omega | (simp; done) | (simp; omega) | (simp_all; omega)) ?_)
    clear E a S; rintro a w v_9 E S
    have ho_10 := S.oneI
    replace S := S.front2
    refine S_x0 (X_store E S rfl rfl (Try.sizeOf22 _) ho_10 ?_)
    clear E a S; rintro a w E S
    refine WL_nil ?_
    refine B_n ?_
    replace S := S.front1
    replace S := S.front1
    replace S := S.front1
    replace S := S.front1
    have S0 := S; clear S; have S := (St.pack [blk b_1 (.cells #[v_9] 22), OwnI 3 v_9 (pre ++ [x])] S0).swap; clear S0
    exact ⟨M_3, _, (Hp.le.refl _), ⟨_, rfl⟩, S⟩
  · rintro a w M_11 _ D_12 hM_11 ⟨u2, rfl⟩ S E
    replace S := S.unpack2
    replace h1 := h1.le hM_11
    refine B_n ?_
    refine T_n ?_
    refine WP_seq ?_
    refine WP_region ?_
    refine S_v E rfl (R_load E rfl (Try.isAgg22 _) (cell_blk (S.mem (.head _)))) rfl ?_
    clear E a; intro a E
    refine S_v E rfl (R_assign E rfl) rfl ?_
    clear E a; intro a E
    refine WL_nil ?_
    refine T_n ?_
    refine WP_ret ?_
    replace S := S.front1
    have S0 := S; clear S
    obtain ⟨M_13, hM_13, hz_14, S⟩ := S0.freezeI (by (first | omega | (simp; omega) | (simp; done) | (simp_all; omega) | grind))
    clear S0
    replace h1 := h1.le hM_13
    replace S := S.drop
    exact F_retM1 E S Try.results105 rfl (fun w S => ⟨_, rfl, M_13, (hM_11.trans hM_13), hz_14, S⟩)
  · rintro _ _ _ _ _ _ _ _ _ hX; exact hX.elim

set_option maxRecDepth 100000 in
set_option maxHeartbeats 4000000 in
theorem slices_Collect {M : Hp} {v0 : Value} {l0 : List Int} (h0 : SeqV Try.prog v0 M (RInt) l0)(hb : l0.length ≤ 1000000000000) :
    Pu Try.prog (.func (.func 81) #[] #[]) M [v0] (fun r M' => RdI M' r l0) := by
  refine Pu_enter Try.func81 rfl Try.ntmps81 rfl Try.call81 ?_
  intro a w M1 H hM1 S E
  replace h0 := h0.le hM1
  refine WP_seq ?_
  refine WP_region ?_
  refine S_v E rfl (R_assign E rfl) rfl ?_
  clear E a; intro a E
  refine WL_nil ?_
  refine T_n ?_
  refine WP_seq ?_
  refine WP_region ?_
  refine S_v E rfl (R_move E rfl) rfl ?_
  clear E a; intro a E
  refine S_x (X_pu E S rfl rfl rfl (slices_AppendSeq h0 (by (first | omega | (simp; omega) | (simp; done) | (simp_all; omega) | grind))) (Hp.le.refl _) ?_)
  clear E a S; rintro a v_2 w M_1 hM_1 hv_2 S E
  replace h0 := h0.le hM_1
  refine S_v E rfl (R_assign E rfl) rfl ?_
  clear E a; intro a E
  refine WL_nil ?_
  refine T_n ?_
  refine WP_ret ?_
  exact F_ret1 E Try.results81 rfl ⟨_, rfl, M_1, hM_1, hv_2, S⟩

set_option maxRecDepth 100000 in
set_option maxHeartbeats 4000000 in
theorem impl_WithoutNthSeq {M : Hp} {v0 v1 : Value} {l0 l1 : List Int} (h0 : RdI M v0 l0) (h1 : RdI M v1 l1) (hb : l0.length ≤ 1000000000000) :
    Pu Try.prog (.func (.func 43) #[] #[]) M [v0, v1] (fun r M' => RdI M' r (wnthL l0 l1)) := by
  refine Pu_enter Try.func43 rfl Try.ntmps43 rfl Try.call43 ?_
  intro a w M1 H hM1 S E
  replace h0 := h0.le hM1
  replace h1 := h1.le hM1
  have b0 := h0.bound
  have b1 := h1.bound
  have hwl := wnth_len l0 l1
  refine WP_seq ?_
  refine WP_region ?_
  refine S_v E rfl (R_assign E rfl) rfl ?_
  clear E a; intro a E
  refine WL_nil ?_
  refine T_n ?_
  refine WP_seq ?_
  refine WP_region ?_
  refine S_v E rfl (R_move E rfl) rfl ?_
  clear E a; intro a E
  refine S_x (X_pu E S rfl rfl rfl (slices_Values h0) (Hp.le.refl _) ?_)
  clear E a S; rintro a v_2 w M_1 hM_1 hv_2 S E
  replace h0 := h0.le hM_1
  replace h1 := h1.le hM_1
  refine S_v E rfl (R_move E rfl) rfl ?_
  clear E a; intro a E
  refine S_x (X_pu E S rfl rfl rfl (it_WithoutNth hv_2 h1 (by (first | omega | (simp; omega) | (simp; done) | (simp_all; omega) | grind))) (Hp.le.refl _) ?_)
  clear E a S; rintro a v_4 w M_3 hM_3 hv_4 S E
  replace h0 := h0.le hM_3
  replace h1 := h1.le hM_3
  replace hv_2 := hv_2.le hM_3
  refine S_x (X_pu E S rfl rfl rfl (slices_Collect hv_4 (by (first | omega | (simp; omega) | (simp; done) | (simp_all; omega) | grind))) (Hp.le.refl _) ?_)
  clear E a S; rintro a v_6 w M_5 hM_5 hv_6 S E
  replace h0 := h0.le hM_5
  replace h1 := h1.le hM_5
  replace hv_2 := hv_2.le hM_5
  replace hv_4 := hv_4.le hM_5
  refine S_v E rfl (R_assign E rfl) rfl ?_
  clear E a; intro a E
  refine WL_nil ?_
  refine T_n ?_
  refine WP_ret ?_
  exact F_ret1 E Try.results43 rfl ⟨_, rfl, M_5, (hM_1.trans (hM_3.trans hM_5)), hv_6, S⟩

set_option maxRecDepth 100000 in
set_option maxHeartbeats 4000000 in
theorem it_DropByIndex1 {M : Hp} {m8 : Value} {q8 : List Int} (hm8 : RdM M m8 (Sl.encS q8)) {x0 x1 : Int} {bx8 : Nat} (hbx8 : M bx8 = some (.cells #[m8] 93)) :
    Pu Try.prog (.func (.func 109) #[] #[.pointer (some ⟨bx8, 0, none⟩)]) M [.int .i64 x0, .int .i64 x1] (fun r M' => r = .bool (decide (x1 ∈ q8))) := by
  refine Pu_enter Try.func109 rfl Try.ntmps109 rfl Try.call109 ?_
  intro a w M1 H hM1 S E
  replace hm8 := hm8.le hM1
  replace hbx8 := hM1.2 _ _ hbx8
  refine WP_seq ?_
  refine WP_region ?_
  refine S_v E rfl (R_assign E rfl) rfl ?_
  clear E a; intro a E
  refine WL_nil ?_
  refine T_n ?_
  refine WP_seq ?_
  refine WP_region ?_
  refine S_v E rfl (R_loadM E rfl Try.isAgg93 S.imm (cellM_box hbx8)) rfl ?_
  clear E a; intro a E
  refine S_v E rfl (R_move E rfl) rfl ?_
  clear E a; intro a E
  refine S_x (X_pu E S rfl rfl rfl (lo_HasKey hm8) (Hp.le.refl _) ?_)
  clear E a S; rintro a _ w M_1 hM_1 rfl S E
  replace hm8 := hm8.le hM_1
  replace hbx8 := hM_1.2 _ _ hbx8
  refine S_v E rfl (R_assign E rfl) rfl ?_
  clear E a; intro a E
  refine WL_nil ?_
  refine T_n ?_
  refine WP_ret ?_
  exact F_ret1 E Try.results109 rfl ⟨_, rfl, M_1, hM_1, rfl, S⟩

set_option maxRecDepth 100000 in
set_option maxHeartbeats 4000000 in
theorem it_DropByIndex {M : Hp} {v0 : Value} {l0 : List Int} (h0 : SeqV Try.prog v0 M (RInt) l0) {v1 : Value} {l1 : List Int} (h1 : RdI M v1 l1) (hb : l0.length ≤ 1000000000000) :
    Pu Try.prog (.func (.func 83) #[] #[]) M [v0, v1] (fun r M' => SeqV Try.prog r M' RInt (wnthL l0 l1)) := by
  refine Pu_enter Try.func83 rfl Try.ntmps83 rfl Try.call83 ?_
  intro a w M1 H hM1 S E
  replace h0 := h0.le hM1
  replace h1 := h1.le hM1
  have b1 := h1.bound
  refine WP_seq ?_
  refine WP_region ?_
  refine S_v E rfl (R_assign E rfl) rfl ?_
  clear E a; intro a E
  refine WL_nil ?_
  refine T_n ?_
  refine WP_seq ?_
  refine WP_region ?_
  refine S_v E rfl (R_move E rfl) rfl ?_
  clear E a; intro a E
  refine S_x (X_sp (p := []) E S rfl rfl rfl (lo_Keyify h1) (Hp.le.refl _) ?_)
  clear E a S; rintro a _ w M_1 _ hM_1 ⟨v_2, rfl, rfl⟩ S E
  replace S : St w M_1 (OwnS v_2 (keyL l1) :: _) := S
  replace h0 := h0.le hM_1
  replace h1 := h1.le hM_1
  refine S_x (X_alloc (cs := #[.map none]) E S rfl Try.zeroValue93 rfl ?_)
  clear E a S; rintro a w b_3 E S
  refine S_x0 (X_store E S rfl rfl (Try.sizeOf93 _) rfl ?_)
  clear E a S; rintro a w E S
  refine WL_nil ?_
  refine T_n ?_
  refine WP_seq ?_
  refine WP_region ?_
  refine S_v E rfl (R_move E rfl) rfl ?_
  clear E a; intro a E
  replace S := S.front1
  have S0 := S; clear S
  obtain ⟨M_4, hM_4, hm_5, S⟩ := S0.freezeM
  clear S0
  replace h0 := h0.le hM_4
  replace h1 := h1.le hM_4
  have S0 := S; clear S
  obtain ⟨M_6, hM_6, hb_7, S⟩ := S0.freezeB
  clear S0
  replace h0 := h0.le hM_6
  replace h1 := h1.le hM_6
  replace hm_5 := hm_5.le hM_6
  refine S_v E rfl (R_makeFunc E rfl rfl) rfl ?_
  clear E a; intro a E
  refine S_x (X_pu E S rfl rfl rfl (it_RejectI h0 ⟨rfl, fun zx0 zx1 => it_DropByIndex1 (x0 := zx0) (x1 := zx1) hm_5 hb_7⟩ (by (first | omega | (simp; omega) | (simp; done) | (simp_all; omega) | grind))) (Hp.le.refl _) ?_)
  clear E a S; rintro a v_9 w M_8 hM_8 hv_9 S E
  replace h0 := h0.le hM_8
  replace h1 := h1.le hM_8
  replace hm_5 := hm_5.le hM_8
  replace hb_7 := hM_8.2 _ _ hb_7
  refine S_v E rfl (R_assign E rfl) rfl ?_
  clear E a; intro a E
  refine WL_nil ?_
  refine T_n ?_
  refine WP_ret ?_
  exact F_ret1 E Try.results83 rfl ⟨_, rfl, M_8, (hM_1.trans (hM_4.trans (hM_6.trans hM_8))), (SeqV_eq hv_9 (by (unfold wnthL; simp only [mem_keyL]))), S⟩

set_option maxRecDepth 100000 in
set_option maxHeartbeats 4000000 in
theorem impl_DropByIndexSeq {M : Hp} {v0 v1 : Value} {l0 l1 : List Int} (h0 : RdI M v0 l0) (h1 : RdI M v1 l1) (hb : l0.length ≤ 1000000000000) :
    Pu Try.prog (.func (.func 44) #[] #[]) M [v0, v1] (fun r M' => RdI M' r (wnthL l0 l1)) := by
  refine Pu_enter Try.func44 rfl Try.ntmps44 rfl Try.call44 ?_
  intro a w M1 H hM1 S E
  replace h0 := h0.le hM1
  replace h1 := h1.le hM1
  have b0 := h0.bound
  have b1 := h1.bound
  have hwl := wnth_len l0 l1
  refine WP_seq ?_
  refine WP_region ?_
  refine S_v E rfl (R_assign E rfl) rfl ?_
  clear E a; intro a E
  refine WL_nil ?_
  refine T_n ?_
  refine WP_seq ?_
  refine WP_region ?_
  refine S_v E rfl (R_move E rfl) rfl ?_
  clear E a; intro a E
  refine S_x (X_pu E S rfl rfl rfl (slices_Values h0) (Hp.le.refl _) ?_)
  clear E a S; rintro a v_2 w M_1 hM_1 hv_2 S E
  replace h0 := h0.le hM_1
  replace h1 := h1.le hM_1
  refine S_v E rfl (R_move E rfl) rfl ?_
  clear E a; intro a E
  refine S_x (X_pu E S rfl rfl rfl (it_DropByIndex hv_2 h1 (by (first | omega | (simp; omega) | (simp; done) | (simp_all; omega) | grind))) (Hp.le.refl _) ?_)
  clear E a S; rintro a v_4 w M_3 hM_3 hv_4 S E
  replace h0 := h0.le hM_3
  replace h1 := h1.le hM_3
  replace hv_2 := hv_2.le hM_3
  refine S_x (X_pu E S rfl rfl rfl (slices_Collect hv_4 (by (first | omega | (simp; omega) | (simp; done) | (simp_all; omega) | grind))) (Hp.le.refl _) ?_)
  clear E a S; rintro a v_6 w M_5 hM_5 hv_6 S E
  replace h0 := h0.le hM_5
  replace h1 := h1.le hM_5
  replace hv_2 := hv_2.le hM_5
  replace hv_4 := hv_4.le hM_5
  refine S_v E rfl (R_assign E rfl) rfl ?_
  clear E a; intro a E
  refine WL_nil ?_
  refine T_n ?_
  refine WP_ret ?_
  exact F_ret1 E Try.results44 rfl ⟨_, rfl, M_5, (hM_1.trans (hM_3.trans hM_5)), hv_6, S⟩

set_option maxRecDepth 100000 in
set_option maxHeartbeats 4000000 in
theorem laws_FnWithoutPlaces {M : Hp} {v0 v1 : Value} {l0 l1 : List Int} (h0 : RdI M v0 l0) (h1 : RdI M v1 l1) (hr1 : I64R l1) :
    PuC Try.prog 6 M [v0, v1] (fun r M' => r = .bool true) := by
  refine PuC_enter Try.func6 rfl Try.ntmps6 rfl ?_
  intro a w M1 H hM1 S E
  replace h0 := h0.le hM1
  replace h1 := h1.le hM1
  have b0 := h0.bound
  have b1 := h1.bound
  refine WP_seq ?_
  refine WP_region ?_
  refine S_v E rfl (R_assign E rfl) rfl ?_
  clear E a; intro a E
  refine WL_nil ?_
  refine T_n ?_
  refine WP_seq ?_
  refine WP_seq ?_
  refine WP_region ?_
  refine S_v E rfl (R_move E rfl) rfl ?_
  clear E a; intro a E
  refine S_v E rfl (R_lenV E rfl T22 h0.len) rfl ?_
  clear E a; intro a E
  refine S_v E rfl (R_gtr E rfl rfl) rfl ?_
  clear E a; intro a E
  refine S_v E rfl (R_move E rfl) rfl ?_
  clear E a; intro a E
  refine split_bool (decide (2147483647 < (((l0).length : Nat) : Int))) (fun hc_1 => ?_) (fun hc_1 => ?_)
  · replace E := E.val (t := 16) rfl hc_1
    replace E := E.val (t := 17) rfl hc_1
    replace hc_1 := of_decide_eq_true hc_1
    refine WL_guard_no E rfl rfl rfl rfl fun a E => ?_
    refine WL_guard_no E rfl rfl rfl rfl fun a E => ?_
    refine WL_guard_no E rfl rfl rfl rfl fun a E => ?_
    refine S_v E rfl (R_pickT E rfl rfl) rfl ?_
    clear E a; intro a E
    refine WL_nil ?_
    refine T_n ?_
    refine WP_condT E rfl rfl ?_
    refine WP_seq ?_
    refine WP_region ?_
    refine S_v E rfl (R_assign E rfl) rfl ?_
    clear E a; intro a E
    refine WL_nil ?_
    refine T_n ?_
    refine WP_ret ?_
    refine T_r ?_
    exact F_ret1 E Try.results6 rfl ⟨_, rfl, M1, (Hp.le.refl _), rfl, S⟩
  · replace E := E.val (t := 16) rfl hc_1
    replace E := E.val (t := 17) rfl hc_1
    replace hc_1 := of_decide_eq_false hc_1
    refine WL_guard_yes E rfl rfl ?_
    refine S_v E rfl (R_move E rfl) rfl ?_
    clear E a; intro a E
    refine WL_guard_yes E rfl rfl ?_
    refine S_v E rfl (R_lenV E rfl T22 h1.len) rfl ?_
    clear E a; intro a E
    refine WL_guard_yes E rfl rfl ?_
    refine S_v E rfl (R_gtr E rfl rfl) rfl ?_
    clear E a; intro a E
    refine S_v E rfl (R_pickF E rfl rfl) rfl ?_
    clear E a; intro a E
    refine WL_nil ?_
    refine T_n ?_
    refine WP_cond E rfl (fun hc_2 => ?_) (fun hc_2 => ?_)
    · replace hc_2 := of_decide_eq_true hc_2
      refine WP_seq ?_
      refine WP_region ?_
      refine S_v E rfl (R_assign E rfl) rfl ?_
      clear E a; intro a E
      refine WL_nil ?_
      refine T_n ?_
      refine WP_ret ?_
      refine T_r ?_
      exact F_ret1 E Try.results6 rfl ⟨_, rfl, M1, (Hp.le.refl _), rfl, S⟩
    · replace hc_2 := of_decide_eq_false hc_2
      refine WP_skip ?_
      refine T_n ?_
      refine WP_seq ?_
      refine WP_seq ?_
      refine WP_region ?_
      refine S_x (X_buildI (ys := [1, 2]) E S rfl T22 rfl rfl rfl ?_)
      clear E a S; rintro a w v_3 E S
      refine S_x (X_buildI (ys := [0]) E S rfl T22 rfl rfl rfl ?_)
      clear E a S; rintro a w v_4 E S
      replace S := S.front1
      have S0 := S; clear S
      obtain ⟨M_5, hM_5, hz_6, S⟩ := S0.freezeI (by (first | omega | (simp; done) | (simp; omega)))
      clear S0
      replace h0 := h0.le hM_5
      replace h1 := h1.le hM_5
      have S0 := S; clear S
      obtain ⟨M_7, hM_7, hz_8, S⟩ := S0.freezeI (by (first | omega | (simp; done) | (simp; omega)))
      clear S0
      replace h0 := h0.le hM_7
      replace h1 := h1.le hM_7
      replace hz_6 := hz_6.le hM_7
      refine S_x (X_pu E S rfl rfl rfl (impl_WithoutNth hz_6 hz_8 (by (first | omega | (simp; omega) | (simp; done) | (simp_all; omega) | grind))) (Hp.le.refl _) ?_)
      clear E a S; rintro a v_10 w M_9 hM_9 hv_10 S E
      replace h0 := h0.le hM_9
      replace h1 := h1.le hM_9
      replace hz_6 := hz_6.le hM_9
      replace hz_8 := hz_8.le hM_9
      refine S_v E rfl (R_lenV E rfl T22 hv_10.len) rfl ?_
      clear E a; intro a E
      refine S_v E rfl (R_neq E rfl rfl) rfl ?_
      clear E a; intro a E
      refine WL_nil ?_
      refine T_n ?_
      have hc_11 : (decide ((((wnthL [1, 2] [0]).length : Nat) : Int) ≠ 1)) = false := by (clear S E; first | (rw [List.take_of_length_le (show l0.length ≤ k2 by omega), List.take_of_length_le (show l1.length ≤ k by omega), wn_back]; simp; done) | (rw [List.take_of_length_le (show l0.length ≤ k2 by omega), List.take_of_length_le (show l1.length ≤ k by omega), spd_back]; simp; done) | (simp; done) | decide | (simp [wnthL, filtI]; done) | (rw [List.take_of_length_le (show l0.length ≤ k2 by omega)]; simp; done) | (rw [List.take_of_length_le (show l0.length ≤ k2 by omega), wn_back]; simp; done) | (rw [List.take_of_length_le (show l0.length ≤ k2 by omega), spd_back]; simp; done))
      refine WP_condF E rfl hc_11 ?_
      refine WP_skip ?_
      refine T_n ?_
      refine WP_seq ?_
      refine WP_seq ?_
      refine WP_region ?_
      refine S_v E rfl (R_move E rfl) rfl ?_
      clear E a; intro a E
      refine S_v E rfl (R_move E rfl) rfl ?_
      clear E a; intro a E
      refine S_x (X_buildM (R := RSl 1 RInt) (vs := [v0, v1]) (xs := [l0, l1]) (RSl_mono RInt_mono) E S rfl T54 rfl rfl rfl (by intro u hu; simp only [List.mem_cons, List.not_mem_nil, or_false] at hu; rcases hu with rfl | rfl <;> first | exact RdI.one h0 | exact RdI.one h1 | rfl) rfl (rowsC (R := RSl 1 RInt) (RdI.row h0) (rowsC (R := RSl 1 RInt) (RdI.row h1) rowsN)) ?_)
      clear E a S; rintro a v_12 w M_13 hM_13 hv_12 S E
      replace hv_12 : RdII M_13 v_12 [l0, l1] := hv_12
      replace h0 := h0.le hM_13
      replace h1 := h1.le hM_13
      replace hz_6 := hz_6.le hM_13
      replace hz_8 := hz_8.le hM_13
      replace hv_10 := hv_10.le hM_13
      refine S_x (X_pu E S rfl rfl rfl (laws_few hv_12) (Hp.le.refl _) ?_)
      clear E a S; rintro a _ w M_14 hM_14 rfl S E
      replace h0 := h0.le hM_14
      replace h1 := h1.le hM_14
      replace hz_6 := hz_6.le hM_14
      replace hz_8 := hz_8.le hM_14
      replace hv_10 := hv_10.le hM_14
      replace hv_12 := hv_12.le hM_14
      refine S_v E rfl (R_not E rfl) rfl ?_
      clear E a; intro a E
      refine WL_nil ?_
      refine T_n ?_
      refine WP_cond E rfl (fun hc_15 => ?_) (fun hc_15 => ?_)
      · refine WP_seq ?_
        refine WP_region ?_
        refine S_v E rfl (R_assign E rfl) rfl ?_
        clear E a; intro a E
        refine WL_nil ?_
        refine T_n ?_
        refine WP_ret ?_
        refine T_r ?_
        exact F_ret1 E Try.results6 rfl ⟨_, rfl, M_14, (hM_5.trans (hM_7.trans (hM_9.trans (hM_13.trans hM_14)))), rfl, S⟩
      · have hle : l0.length ≤ 300 ∧ l1.length ≤ 300 := (by simp_all)
        refine WP_skip ?_
        refine T_n ?_
        refine WP_seq ?_
        refine WP_region ?_
        refine S_v E rfl (R_assign E rfl) rfl ?_
        clear E a; intro a E
        refine S_v E rfl (R_assign E rfl) rfl ?_
        clear E a; intro a E
        refine S_v E rfl (R_assign E rfl) rfl ?_
        clear E a; intro a E
        refine WL_nil ?_
        refine T_n ?_
        refine WP_seq ?_
        refine WP_seq ?_
        refine WP_region ?_
        refine S_v E rfl (R_move E rfl) rfl ?_
        clear E a; intro a E
        refine S_v E rfl (R_lenV E rfl T22 h1.len) rfl ?_
        clear E a; intro a E
        refine S_v E rfl (R_move E rfl) rfl ?_
        clear E a; intro a E
        refine WL_nil ?_
        refine T_n ?_
        refine WP_block ?_
        replace S := (S.ownNil (e := 3) (sz := 1)).made0
        replace S := S.re1 (l' := (l1.take 0).map (backF l0.length)) (by first | (simp; done) | exact bk_yes (by assumption) (by omega) (by omega) | exact bk_no (by assumption) (by omega))
        refine WP_loop (γ := Nat) (fun (k : Nat) a w => ∃ (M_17 : Hp) (u5 : Value), Hp.le M_14 M_17 ∧ St w M_17 (OwnI 3 u5 ((l1.take k).map (backF l0.length)) :: H) ∧ Env a 130 [] [(0, v0), (1, v1), (5, u5), (6, .slice none 0 0), (7, .slice none 0 0), (32, v1), (33, .int .i64 (((l1).length : Nat) : Int)), (34, .int .i64 ((k : Nat) : Int))] ∧ (k ≤ (l1).length)) (fun k => ((l1).length) - k) 0 ⟨M_14, _, Hp.le.refl _, S, E.keep ⟨rfl, rfl, rfl, rfl, rfl, rfl, rfl, rfl, trivial⟩, by ((try clear S); (try clear E); first | assumption | omega | rfl | (simp; done) | (simp_all; done) | (simp [List.take_add_one, *]; done) | grind [List.take_add_one])⟩ ?_
        try clear E
        try clear S
        try clear a
        try clear w
        rintro k a w ⟨M_17, u5, hM_17, S, E, hL0_0⟩
        replace h0 := h0.le hM_17
        replace h1 := h1.le hM_17
        replace hz_6 := hz_6.le hM_17
        replace hz_8 := hz_8.le hM_17
        replace hv_10 := hv_10.le hM_17
        replace hv_12 := hv_12.le hM_17
        have hke : ((l1.take k).map (backF l0.length)).length = k := by simp; omega
        refine WP_seq ?_
        refine WP_region ?_
        refine S_v E rfl (R_lss E rfl rfl) rfl ?_
        clear E a; intro a E
        refine WL_nil ?_
        refine T_n ?_
        refine WP_seq ?_
        refine WP_cond E rfl (fun hc_18 => ?_) (fun hc_18 => ?_)
        · replace hc_18 := of_decide_eq_true hc_18
          refine WP_skip ?_
          refine T_n ?_
          refine WP_seq ?_
          refine WP_block ?_
          refine WP_seq ?_
          refine WP_region ?_
          obtain ⟨x_19, hx_19⟩ : ∃ x, (l1)[k]? = some x := ⟨_, List.getElem?_eq_getElem (by (first | omega | (simp [plB_len]; omega) | (simp; omega)))⟩
          obtain ⟨p_20, hp_20, qp_20⟩ := h1.at hx_19
          refine S_v E rfl (R_idx E rfl rfl T22 hp_20 rfl) rfl ?_
          clear E a; intro a E
          refine S_v E rfl (R_loadM E rfl Try.isAgg3 S.imm qp_20) rfl ?_
          clear E a; intro a E
          refine S_v E rfl (R_assign E rfl) rfl ?_
          clear E a; intro a E
          refine WL_nil ?_
          refine T_n ?_
          refine WP_seq ?_
          refine WP_seq ?_
          refine WP_region ?_
          refine S_v E rfl (R_move E rfl) rfl ?_
          clear E a; intro a E
          refine S_v E rfl (R_lss E rfl rfl) rfl ?_
          clear E a; intro a E
          refine S_v E rfl (R_move E rfl) rfl ?_
          clear E a; intro a E
          refine split_bool (decide (x_19 < 0)) (fun hc_21 => ?_) (fun hc_21 => ?_)
          · replace E := E.val (t := 39) rfl hc_21
            replace E := E.val (t := 40) rfl hc_21
            replace hc_21 := of_decide_eq_true hc_21
            refine WL_guard_yes E rfl rfl ?_
            refine S_v E rfl (R_move E rfl) rfl ?_
            clear E a; intro a E
            refine WL_guard_yes E rfl rfl ?_
            refine S_v E rfl (R_move E rfl) rfl ?_
            clear E a; intro a E
            refine WL_guard_yes E rfl rfl ?_
            refine S_v E rfl (R_lenV E rfl T22 h0.len) rfl ?_
            clear E a; intro a E
            refine WL_guard_yes E rfl rfl ?_
            refine S_v E rfl (R_negx (m := -(((l0).length : Nat) : Int)) E rfl rfl (by omega)) rfl ?_
            clear E a; intro a E
            refine WL_guard_yes E rfl rfl ?_
            refine S_v E rfl (R_geq E rfl rfl) rfl ?_
            clear E a; intro a E
            refine S_v E rfl (R_pickT E rfl rfl) rfl ?_
            clear E a; intro a E
            refine WL_nil ?_
            refine T_n ?_
            refine WP_cond E rfl (fun hc_22 => ?_) (fun hc_22 => ?_)
            · replace hc_22 := of_decide_eq_true hc_22
              refine WP_region ?_
              refine S_v E rfl (R_move E rfl) rfl ?_
              clear E a; intro a E
              refine S_v E rfl (R_move E rfl) rfl ?_
              clear E a; intro a E
              refine S_v E rfl (R_lenV E rfl T22 h0.len) rfl ?_
              clear E a; intro a E
              refine S_v E rfl (R_addx (m := x_19 + (((l0).length : Nat) : Int)) E rfl rfl (by omega) (by omega)) rfl ?_
              clear E a; intro a E
              refine S_v E rfl (R_assign E rfl) rfl ?_
              clear E a; intro a E
              refine WL_nil ?_
              refine T_n ?_
              refine WP_region ?_
              refine S_v E rfl (R_move E rfl) rfl ?_
              clear E a; intro a E
              refine S_v E rfl (R_move E rfl) rfl ?_
              clear E a; intro a E
              refine S_x (X_buildI (ys := [x_19 + (((l0).length : Nat) : Int)]) E S rfl T22 rfl rfl rfl ?_)
              clear E a S; rintro a w v_23 E S
              replace S := S.front1
              replace S := S.front1
              refine S_x (X_appendB (xs := (l1.take k).map (backF l0.length)) (ys := [x_19 + (((l0).length : Nat) : Int)]) E S rfl rfl rfl T22 (by (first | (simp; done) | (simp; omega) | (simp only [List.length_cons, List.length_nil]; omega))) ?_)
              clear E a S; rintro a w v_24 E S
              refine S_v E rfl (R_assign E rfl) rfl ?_
              clear E a; intro a E
              refine WL_nil ?_
              refine B_n ?_
              refine T_n ?_
              refine WP_region ?_
              refine S_v E rfl (R_addx (m := ((k + 1 : Nat) : Int)) E rfl rfl (by omega) (by omega)) rfl ?_
              clear E a; intro a E
              refine S_v E rfl (R_move E rfl) rfl ?_
              clear E a; intro a E
              refine WL_nil ?_
              refine T_n ?_
              replace S := S.re1 (l' := (l1.take (k + 1)).map (backF l0.length)) (by first | (simp; done) | exact bk_yes (by assumption) (by omega) (by omega) | exact bk_no (by assumption) (by omega))
              exact ⟨k + 1, ⟨M_17, _, hM_17, S, E.keep ⟨rfl, rfl, rfl, rfl, rfl, rfl, rfl, rfl, trivial⟩, by ((try clear S); (try clear E); first | assumption | omega | rfl | (simp; done) | (simp_all; done) | (simp [List.take_add_one, *]; done) | grind [List.take_add_one])⟩, by omega⟩
            · replace hc_22 := of_decide_eq_false hc_22
              refine WP_skip ?_
              refine T_n ?_
              refine WP_region ?_
              refine S_v E rfl (R_move E rfl) rfl ?_
              clear E a; intro a E
              refine S_v E rfl (R_move E rfl) rfl ?_
              clear E a; intro a E
              refine S_x (X_buildI (ys := [x_19]) E S rfl T22 rfl rfl rfl ?_)
              clear E a S; rintro a w v_25 E S
              replace S := S.front1
              replace S := S.front1
              refine S_x (X_appendB (xs := (l1.take k).map (backF l0.length)) (ys := [x_19]) E S rfl rfl rfl T22 (by (first | (simp; done) | (simp; omega) | (simp only [List.length_cons, List.length_nil]; omega))) ?_)
              clear E a S; rintro a w v_26 E S
              refine S_v E rfl (R_assign E rfl) rfl ?_
              clear E a; intro a E
              refine WL_nil ?_
              refine B_n ?_
              refine T_n ?_
              refine WP_region ?_
              refine S_v E rfl (R_addx (m := ((k + 1 : Nat) : Int)) E rfl rfl (by omega) (by omega)) rfl ?_
              clear E a; intro a E
              refine S_v E rfl (R_move E rfl) rfl ?_
              clear E a; intro a E
              refine WL_nil ?_
              refine T_n ?_
              replace S := S.re1 (l' := (l1.take (k + 1)).map (backF l0.length)) (by first | (simp; done) | exact bk_yes (by assumption) (by omega) (by omega) | exact bk_no (by assumption) (by omega))
              exact ⟨k + 1, ⟨M_17, _, hM_17, S, E.keep ⟨rfl, rfl, rfl, rfl, rfl, rfl, rfl, rfl, trivial⟩, by ((try clear S); (try clear E); first | assumption | omega | rfl | (simp; done) | (simp_all; done) | (simp [List.take_add_one, *]; done) | grind [List.take_add_one])⟩, by omega⟩
          · replace E := E.val (t := 39) rfl hc_21
            replace E := E.val (t := 40) rfl hc_21
            replace hc_21 := of_decide_eq_false hc_21
            refine WL_guard_no E rfl rfl rfl rfl fun a E => ?_
            refine WL_guard_no E rfl rfl rfl rfl fun a E => ?_
            refine WL_guard_no E rfl rfl rfl rfl fun a E => ?_
            refine WL_guard_no E rfl rfl rfl rfl fun a E => ?_
            refine WL_guard_no E rfl rfl rfl rfl fun a E => ?_
            refine S_v E rfl (R_pickF E rfl rfl) rfl ?_
            clear E a; intro a E
            refine WL_nil ?_
            refine T_n ?_
            refine WP_condF E rfl rfl ?_
            refine WP_skip ?_
            refine T_n ?_
            refine WP_region ?_
            refine S_v E rfl (R_move E rfl) rfl ?_
            clear E a; intro a E
            refine S_v E rfl (R_move E rfl) rfl ?_
            clear E a; intro a E
            refine S_x (X_buildI (ys := [x_19]) E S rfl T22 rfl rfl rfl ?_)
            clear E a S; rintro a w v_27 E S
            replace S := S.front1
            replace S := S.front1
            refine S_x (X_appendB (xs := (l1.take k).map (backF l0.length)) (ys := [x_19]) E S rfl rfl rfl T22 (by (first | (simp; done) | (simp; omega) | (simp only [List.length_cons, List.length_nil]; omega))) ?_)
            clear E a S; rintro a w v_28 E S
            refine S_v E rfl (R_assign E rfl) rfl ?_
            clear E a; intro a E
            refine WL_nil ?_
            refine B_n ?_
            refine T_n ?_
            refine WP_region ?_
            refine S_v E rfl (R_addx (m := ((k + 1 : Nat) : Int)) E rfl rfl (by omega) (by omega)) rfl ?_
            clear E a; intro a E
            refine S_v E rfl (R_move E rfl) rfl ?_
            clear E a; intro a E
            refine WL_nil ?_
            refine T_n ?_
            replace S := S.re1 (l' := (l1.take (k + 1)).map (backF l0.length)) (by first | (simp; done) | exact bk_yes (by assumption) (by omega) (by omega) | exact bk_no (by assumption) (by omega))
            exact ⟨k + 1, ⟨M_17, _, hM_17, S, E.keep ⟨rfl, rfl, rfl, rfl, rfl, rfl, rfl, rfl, trivial⟩, by ((try clear S); (try clear E); first | assumption | omega | rfl | (simp; done) | (simp_all; done) | (simp [List.take_add_one, *]; done) | grind [List.take_add_one])⟩, by omega⟩
        · replace hc_18 := of_decide_eq_false hc_18
          refine WP_exit ?_
          refine T_x ?_
          refine T_x ?_
          refine B_x ?_
          refine T_n ?_
          refine WP_seq ?_
          refine WP_region ?_
          refine S_v E rfl (R_move E rfl) rfl ?_
          clear E a; intro a E
          refine S_v E rfl (R_lenV E rfl T22 h0.len) rfl ?_
          clear E a; intro a E
          refine S_v E rfl (R_move E rfl) rfl ?_
          clear E a; intro a E
          refine S_x (X_pu E S rfl rfl rfl (laws_places (by first | omega | (simp; omega)) h1) (Hp.le.refl _) ?_)
          clear E a S; rintro a v_30 w M_29 hM_29 hv_30 S E
          replace h0 := h0.le hM_29
          replace h1 := h1.le hM_29
          replace hz_6 := hz_6.le hM_29
          replace hz_8 := hz_8.le hM_29
          replace hv_10 := hv_10.le hM_29
          replace hv_12 := hv_12.le hM_29
          refine S_v E rfl (R_move E rfl) rfl ?_
          clear E a; intro a E
          refine S_v E rfl (R_lenV E rfl T22 h0.len) rfl ?_
          clear E a; intro a E
          refine S_v E rfl (R_move E rfl) rfl ?_
          clear E a; intro a E
          have S0 := S; clear S
          obtain ⟨M_31, hM_31, hz_32, S⟩ := S0.freezeI (by (first | omega | (simp; done) | (simp; omega)))
          clear S0
          replace h0 := h0.le hM_31
          replace h1 := h1.le hM_31
          replace hz_6 := hz_6.le hM_31
          replace hz_8 := hz_8.le hM_31
          replace hv_10 := hv_10.le hM_31
          replace hv_12 := hv_12.le hM_31
          replace hv_30 := hv_30.le RB1_mono hM_31
          refine S_x (X_pu E S rfl rfl rfl (laws_places (by first | omega | (simp; omega)) hz_32) (Hp.le.refl _) ?_)
          clear E a S; rintro a v_34 w M_33 hM_33 hv_34 S E
          replace h0 := h0.le hM_33
          replace h1 := h1.le hM_33
          replace hz_6 := hz_6.le hM_33
          replace hz_8 := hz_8.le hM_33
          replace hv_10 := hv_10.le hM_33
          replace hv_12 := hv_12.le hM_33
          replace hv_30 := hv_30.le RB1_mono hM_33
          replace hz_32 := hz_32.le hM_33
          refine S_v E rfl (R_assign E rfl) rfl ?_
          clear E a; intro a E
          refine S_v E rfl (R_assign E rfl) rfl ?_
          clear E a; intro a E
          refine WL_nil ?_
          refine T_n ?_
          refine WP_seq ?_
          refine WP_seq ?_
          refine WP_region ?_
          refine S_v E rfl (R_move E rfl) rfl ?_
          clear E a; intro a E
          refine S_v E rfl (R_lenV E rfl T22 h0.len) rfl ?_
          clear E a; intro a E
          refine S_v E rfl (R_move E rfl) rfl ?_
          clear E a; intro a E
          refine WL_nil ?_
          refine T_n ?_
          refine WP_block ?_
          replace S := (S.ownNil (e := 3) (sz := 1)).made0
          replace S := (S.ownNil (e := 3) (sz := 1)).made0
          replace S := S.front1
          replace S := S.re1 (l' := wnthL (l0.take 0) ((l1.take k).map (backF l0.length))) (by first | (simp [wnthL, filtI]; done) | exact wn_yesN (by assumption) (by assumption) (by assumption) | exact wn_noN (by assumption) (by assumption) (by assumption))
          replace S := S.front1
          replace S := S.re1 (l' := wnthL (l0.take 0) l1) (by first | (simp [wnthL, filtI]; done) | exact wn_yesN (by assumption) (by assumption) (by assumption) | exact wn_noN (by assumption) (by assumption) (by assumption))
          refine WP_loop (γ := Nat) (fun (k2 : Nat) a w => ∃ (M_37 : Hp) (u6 : Value) (u7 : Value), Hp.le M_33 M_37 ∧ St w M_37 (OwnI 3 u6 (wnthL (l0.take k2) l1) :: OwnI 3 u7 (wnthL (l0.take k2) ((l1.take k).map (backF l0.length))) :: H) ∧ Env a 130 [] [(0, v0), (1, v1), (6, u6), (7, u7), (10, v_30), (11, v_34), (64, v0), (65, .int .i64 (((l0).length : Nat) : Int)), (66, .int .i64 ((k2 : Nat) : Int))] ∧ (k2 ≤ (l0).length)) (fun k2 => ((l0).length) - k2) 0 ⟨M_33, _, _, Hp.le.refl _, S, E.keep ⟨rfl, rfl, rfl, rfl, rfl, rfl, rfl, rfl, rfl, trivial⟩, by ((try clear S); (try clear E); first | assumption | omega | rfl | (simp; done) | (simp_all; done) | (simp [List.take_add_one, *]; done) | grind [List.take_add_one])⟩ ?_
          try clear E
          try clear S
          try clear a
          try clear w
          rintro k2 a w ⟨M_37, u6, u7, hM_37, S, E, hL1_0⟩
          replace h0 := h0.le hM_37
          replace h1 := h1.le hM_37
          replace hz_6 := hz_6.le hM_37
          replace hz_8 := hz_8.le hM_37
          replace hv_10 := hv_10.le hM_37
          replace hv_12 := hv_12.le hM_37
          replace hv_30 := hv_30.le RB1_mono hM_37
          replace hz_32 := hz_32.le hM_37
          replace hv_34 := hv_34.le RB1_mono hM_37
          have hw1 := wnth_len (l0.take k2) l1
          have hw2 := wnth_len (l0.take k2) ((l1.take k).map (backF l0.length))
          simp only [List.length_take] at hw1 hw2
          refine WP_seq ?_
          refine WP_region ?_
          refine S_v E rfl (R_lss E rfl rfl) rfl ?_
          clear E a; intro a E
          refine WL_nil ?_
          refine T_n ?_
          refine WP_seq ?_
          refine WP_cond E rfl (fun hc_38 => ?_) (fun hc_38 => ?_)
          · replace hc_38 := of_decide_eq_true hc_38
            refine WP_skip ?_
            refine T_n ?_
            refine WP_seq ?_
            refine WP_block ?_
            refine WP_seq ?_
            refine WP_region ?_
            refine S_v E rfl (R_move E rfl) rfl ?_
            clear E a; intro a E
            obtain ⟨x_39, hx_39⟩ : ∃ x, (l0)[k2]? = some x := ⟨_, List.getElem?_eq_getElem (by (first | omega | (simp [plB_len]; omega) | (simp; omega)))⟩
            obtain ⟨p_40, hp_40, qp_40⟩ := h0.at hx_39
            refine S_v E rfl (R_idx E rfl rfl T22 hp_40 rfl) rfl ?_
            clear E a; intro a E
            refine S_v E rfl (R_loadM E rfl Try.isAgg3 S.imm qp_40) rfl ?_
            clear E a; intro a E
            refine S_v E rfl (R_assign E rfl) rfl ?_
            clear E a; intro a E
            refine S_v E rfl (R_assign E rfl) rfl ?_
            clear E a; intro a E
            refine WL_nil ?_
            refine T_n ?_
            refine WP_seq ?_
            refine WP_seq ?_
            refine WP_region ?_
            refine S_v E rfl (R_move E rfl) rfl ?_
            clear E a; intro a E
            refine S_v E rfl (R_move E rfl) rfl ?_
            clear E a; intro a E
            obtain ⟨x_41, hx_41⟩ : ∃ x, (plB ((l0).length) l1)[k2]? = some x := ⟨_, List.getElem?_eq_getElem (by (first | omega | (simp [plB_len]; omega) | (simp; omega)))⟩
            obtain ⟨p_42, hp_42, qp_42⟩ := RdB.at hv_30 hx_41
            refine S_v E rfl (R_idx E rfl rfl T60 hp_42 rfl) rfl ?_
            clear E a; intro a E
            refine S_v E rfl (R_loadM E rfl Try.isAgg4 S.imm qp_42) rfl ?_
            clear E a; intro a E
            refine S_v E rfl (R_not E rfl) rfl ?_
            clear E a; intro a E
            refine WL_nil ?_
            refine T_n ?_
            refine WP_cond E rfl (fun hc_43 => ?_) (fun hc_43 => ?_)
            · refine WP_region ?_
              refine S_v E rfl (R_move E rfl) rfl ?_
              clear E a; intro a E
              refine S_v E rfl (R_move E rfl) rfl ?_
              clear E a; intro a E
              refine S_x (X_buildI (ys := [x_39]) E S rfl T22 rfl rfl rfl ?_)
              clear E a S; rintro a w v_44 E S
              replace S := S.front1
              replace S := S.front1
              refine S_x (X_appendB (xs := wnthL (l0.take k2) l1) (ys := [x_39]) E S rfl rfl rfl T22 (by (first | (simp; done) | (simp; omega) | (simp only [List.length_cons, List.length_nil]; omega))) ?_)
              clear E a S; rintro a w v_45 E S
              refine S_v E rfl (R_assign E rfl) rfl ?_
              clear E a; intro a E
              refine WL_nil ?_
              refine T_n ?_
              refine WP_seq ?_
              refine WP_region ?_
              refine S_v E rfl (R_move E rfl) rfl ?_
              clear E a; intro a E
              refine S_v E rfl (R_move E rfl) rfl ?_
              clear E a; intro a E
              obtain ⟨x_46, hx_46⟩ : ∃ x, (plB ((l0).length) ((l1.take k).map (backF l0.length)))[k2]? = some x := ⟨_, List.getElem?_eq_getElem (by (first | omega | (simp [plB_len]; omega) | (simp; omega)))⟩
              obtain ⟨p_47, hp_47, qp_47⟩ := RdB.at hv_34 hx_46
              refine S_v E rfl (R_idx E rfl rfl T60 hp_47 rfl) rfl ?_
              clear E a; intro a E
              refine S_v E rfl (R_loadM E rfl Try.isAgg4 S.imm qp_47) rfl ?_
              clear E a; intro a E
              refine S_v E rfl (R_not E rfl) rfl ?_
              clear E a; intro a E
              refine WL_nil ?_
              refine T_n ?_
              refine WP_cond E rfl (fun hc_48 => ?_) (fun hc_48 => ?_)
              · refine WP_region ?_
                refine S_v E rfl (R_move E rfl) rfl ?_
                clear E a; intro a E
                refine S_v E rfl (R_move E rfl) rfl ?_
                clear E a; intro a E
                refine S_x (X_buildI (ys := [x_39]) E S rfl T22 rfl rfl rfl ?_)
                clear E a S; rintro a w v_49 E S
                replace S := S.front2
                replace S := S.front1
                refine S_x (X_appendB (xs := wnthL (l0.take k2) ((l1.take k).map (backF l0.length))) (ys := [x_39]) E S rfl rfl rfl T22 (by (first | (simp; done) | (simp; omega) | (simp only [List.length_cons, List.length_nil]; omega))) ?_)
                clear E a S; rintro a w v_50 E S
                refine S_v E rfl (R_assign E rfl) rfl ?_
                clear E a; intro a E
                refine WL_nil ?_
                refine B_n ?_
                refine T_n ?_
                refine WP_region ?_
                refine S_v E rfl (R_addx (m := ((k2 + 1 : Nat) : Int)) E rfl rfl (by omega) (by omega)) rfl ?_
                clear E a; intro a E
                refine S_v E rfl (R_move E rfl) rfl ?_
                clear E a; intro a E
                refine WL_nil ?_
                refine T_n ?_
                replace S := S.front1
                replace S := S.front1
                replace S := S.re1 (l' := wnthL (l0.take (k2 + 1)) ((l1.take k).map (backF l0.length))) (by first | (simp [wnthL, filtI]; done) | exact wn_yesN (by assumption) (by assumption) (by assumption) | exact wn_noN (by assumption) (by assumption) (by assumption))
                replace S := S.front1
                replace S := S.re1 (l' := wnthL (l0.take (k2 + 1)) l1) (by first | (simp [wnthL, filtI]; done) | exact wn_yesN (by assumption) (by assumption) (by assumption) | exact wn_noN (by assumption) (by assumption) (by assumption))
                exact ⟨k2 + 1, ⟨M_37, _, _, hM_37, S, E.keep ⟨rfl, rfl, rfl, rfl, rfl, rfl, rfl, rfl, rfl, trivial⟩, by ((try clear S); (try clear E); first | assumption | omega | rfl | (simp; done) | (simp_all; done) | (simp [List.take_add_one, *]; done) | grind [List.take_add_one])⟩, by omega⟩
              · refine WP_skip ?_
                refine B_n ?_
                refine T_n ?_
                refine WP_region ?_
                refine S_v E rfl (R_addx (m := ((k2 + 1 : Nat) : Int)) E rfl rfl (by omega) (by omega)) rfl ?_
                clear E a; intro a E
                refine S_v E rfl (R_move E rfl) rfl ?_
                clear E a; intro a E
                refine WL_nil ?_
                refine T_n ?_
                replace S := S.front1
                replace S := S.re1 (l' := wnthL (l0.take (k2 + 1)) ((l1.take k).map (backF l0.length))) (by first | (simp [wnthL, filtI]; done) | exact wn_yesN (by assumption) (by assumption) (by assumption) | exact wn_noN (by assumption) (by assumption) (by assumption))
                replace S := S.front1
                replace S := S.re1 (l' := wnthL (l0.take (k2 + 1)) l1) (by first | (simp [wnthL, filtI]; done) | exact wn_yesN (by assumption) (by assumption) (by assumption) | exact wn_noN (by assumption) (by assumption) (by assumption))
                exact ⟨k2 + 1, ⟨M_37, _, _, hM_37, S, E.keep ⟨rfl, rfl, rfl, rfl, rfl, rfl, rfl, rfl, rfl, trivial⟩, by ((try clear S); (try clear E); first | assumption | omega | rfl | (simp; done) | (simp_all; done) | (simp [List.take_add_one, *]; done) | grind [List.take_add_one])⟩, by omega⟩
            · refine WP_skip ?_
              refine T_n ?_
              refine WP_seq ?_
              refine WP_region ?_
              refine S_v E rfl (R_move E rfl) rfl ?_
              clear E a; intro a E
              refine S_v E rfl (R_move E rfl) rfl ?_
              clear E a; intro a E
              obtain ⟨x_51, hx_51⟩ : ∃ x, (plB ((l0).length) ((l1.take k).map (backF l0.length)))[k2]? = some x := ⟨_, List.getElem?_eq_getElem (by (first | omega | (simp [plB_len]; omega) | (simp; omega)))⟩
              obtain ⟨p_52, hp_52, qp_52⟩ := RdB.at hv_34 hx_51
              refine S_v E rfl (R_idx E rfl rfl T60 hp_52 rfl) rfl ?_
              clear E a; intro a E
              refine S_v E rfl (R_loadM E rfl Try.isAgg4 S.imm qp_52) rfl ?_
              clear E a; intro a E
              refine S_v E rfl (R_not E rfl) rfl ?_
              clear E a; intro a E
              refine WL_nil ?_
              refine T_n ?_
              refine WP_cond E rfl (fun hc_53 => ?_) (fun hc_53 => ?_)
              · refine WP_region ?_
                refine S_v E rfl (R_move E rfl) rfl ?_
                clear E a; intro a E
                refine S_v E rfl (R_move E rfl) rfl ?_
                clear E a; intro a E
                refine S_x (X_buildI (ys := [x_39]) E S rfl T22 rfl rfl rfl ?_)
                clear E a S; rintro a w v_54 E S
                replace S := S.front2
                replace S := S.front1
                refine S_x (X_appendB (xs := wnthL (l0.take k2) ((l1.take k).map (backF l0.length))) (ys := [x_39]) E S rfl rfl rfl T22 (by (first | (simp; done) | (simp; omega) | (simp only [List.length_cons, List.length_nil]; omega))) ?_)
                clear E a S; rintro a w v_55 E S
                refine S_v E rfl (R_assign E rfl) rfl ?_
                clear E a; intro a E
                refine WL_nil ?_
                refine B_n ?_
                refine T_n ?_
                refine WP_region ?_
                refine S_v E rfl (R_addx (m := ((k2 + 1 : Nat) : Int)) E rfl rfl (by omega) (by omega)) rfl ?_
                clear E a; intro a E
                refine S_v E rfl (R_move E rfl) rfl ?_
                clear E a; intro a E
                refine WL_nil ?_
                refine T_n ?_
                replace S := S.front1
                replace S := S.front1
                replace S := S.re1 (l' := wnthL (l0.take (k2 + 1)) ((l1.take k).map (backF l0.length))) (by first | (simp [wnthL, filtI]; done) | exact wn_yesN (by assumption) (by assumption) (by assumption) | exact wn_noN (by assumption) (by assumption) (by assumption))
                replace S := S.front1
                replace S := S.re1 (l' := wnthL (l0.take (k2 + 1)) l1) (by first | (simp [wnthL, filtI]; done) | exact wn_yesN (by assumption) (by assumption) (by assumption) | exact wn_noN (by assumption) (by assumption) (by assumption))
                exact ⟨k2 + 1, ⟨M_37, _, _, hM_37, S, E.keep ⟨rfl, rfl, rfl, rfl, rfl, rfl, rfl, rfl, rfl, trivial⟩, by ((try clear S); (try clear E); first | assumption | omega | rfl | (simp; done) | (simp_all; done) | (simp [List.take_add_one, *]; done) | grind [List.take_add_one])⟩, by omega⟩
              · refine WP_skip ?_
                refine B_n ?_
                refine T_n ?_
                refine WP_region ?_
                refine S_v E rfl (R_addx (m := ((k2 + 1 : Nat) : Int)) E rfl rfl (by omega) (by omega)) rfl ?_
                clear E a; intro a E
                refine S_v E rfl (R_move E rfl) rfl ?_
                clear E a; intro a E
                refine WL_nil ?_
                refine T_n ?_
                replace S := S.front1
                replace S := S.re1 (l' := wnthL (l0.take (k2 + 1)) ((l1.take k).map (backF l0.length))) (by first | (simp [wnthL, filtI]; done) | exact wn_yesN (by assumption) (by assumption) (by assumption) | exact wn_noN (by assumption) (by assumption) (by assumption))
                replace S := S.front1
                replace S := S.re1 (l' := wnthL (l0.take (k2 + 1)) l1) (by first | (simp [wnthL, filtI]; done) | exact wn_yesN (by assumption) (by assumption) (by assumption) | exact wn_noN (by assumption) (by assumption) (by assumption))
                exact ⟨k2 + 1, ⟨M_37, _, _, hM_37, S, E.keep ⟨rfl, rfl, rfl, rfl, rfl, rfl, rfl, rfl, rfl, trivial⟩, by ((try clear S); (try clear E); first | assumption | omega | rfl | (simp; done) | (simp_all; done) | (simp [List.take_add_one, *]; done) | grind [List.take_add_one])⟩, by omega⟩
          · replace hc_38 := of_decide_eq_false hc_38
            refine WP_exit ?_
            refine T_x ?_
            refine T_x ?_
            refine B_x ?_
            refine T_n ?_
            refine WP_seq ?_
            refine WP_region ?_
            refine S_v E rfl (R_move E rfl) rfl ?_
            clear E a; intro a E
            refine S_v E rfl (R_move E rfl) rfl ?_
            clear E a; intro a E
            refine S_x (X_pu E S rfl rfl rfl (spec_WithoutNth h0 h1 (by (first | omega | (simp; omega) | (simp; done) | (simp_all; omega) | grind))) (Hp.le.refl _) ?_)
            clear E a S; rintro a v_57 w M_56 hM_56 hv_57 S E
            replace h0 := h0.le hM_56
            replace h1 := h1.le hM_56
            replace hz_6 := hz_6.le hM_56
            replace hz_8 := hz_8.le hM_56
            replace hv_10 := hv_10.le hM_56
            replace hv_12 := hv_12.le hM_56
            replace hv_30 := hv_30.le RB1_mono hM_56
            replace hz_32 := hz_32.le hM_56
            replace hv_34 := hv_34.le RB1_mono hM_56
            refine S_v E rfl (R_move E rfl) rfl ?_
            clear E a; intro a E
            have S0 := S; clear S
            obtain ⟨M_58, hM_58, hz_59, S⟩ := S0.freezeI (by (first | omega | (simp; done) | (simp; omega)))
            clear S0
            replace h0 := h0.le hM_58
            replace h1 := h1.le hM_58
            replace hz_6 := hz_6.le hM_58
            replace hz_8 := hz_8.le hM_58
            replace hv_10 := hv_10.le hM_58
            replace hv_12 := hv_12.le hM_58
            replace hv_30 := hv_30.le RB1_mono hM_58
            replace hz_32 := hz_32.le hM_58
            replace hv_34 := hv_34.le RB1_mono hM_58
            replace hv_57 := hv_57.le hM_58
            refine S_x (X_pu E S rfl rfl rfl (laws_eq hv_57 hz_59) (Hp.le.refl _) ?_)
            clear E a S; rintro a _ w M_60 hM_60 rfl S E
            replace h0 := h0.le hM_60
            replace h1 := h1.le hM_60
            replace hz_6 := hz_6.le hM_60
            replace hz_8 := hz_8.le hM_60
            replace hv_10 := hv_10.le hM_60
            replace hv_12 := hv_12.le hM_60
            replace hv_30 := hv_30.le RB1_mono hM_60
            replace hz_32 := hz_32.le hM_60
            replace hv_34 := hv_34.le RB1_mono hM_60
            replace hv_57 := hv_57.le hM_60
            replace hz_59 := hz_59.le hM_60
            refine S_v E rfl (R_move E rfl) rfl ?_
            clear E a; intro a E
            have hc_61 : (decide (wnthL l0 l1 = wnthL (l0.take k2) l1)) = true := by (clear S E; first | (rw [List.take_of_length_le (show l0.length ≤ k2 by omega), List.take_of_length_le (show l1.length ≤ k by omega), wn_back]; simp; done) | (rw [List.take_of_length_le (show l0.length ≤ k2 by omega), List.take_of_length_le (show l1.length ≤ k by omega), spd_back]; simp; done) | (simp; done) | decide | (simp [wnthL, filtI]; done) | (rw [List.take_of_length_le (show l0.length ≤ k2 by omega)]; simp; done) | (rw [List.take_of_length_le (show l0.length ≤ k2 by omega), wn_back]; simp; done) | (rw [List.take_of_length_le (show l0.length ≤ k2 by omega), spd_back]; simp; done))
            replace E := E.val (t := 94) rfl hc_61
            replace E := E.val (t := 95) rfl hc_61
            refine WL_guard_yes E rfl rfl ?_
            refine S_v E rfl (R_move E rfl) rfl ?_
            clear E a; intro a E
            refine WL_guard_yes E rfl rfl ?_
            refine S_v E rfl (R_move E rfl) rfl ?_
            clear E a; intro a E
            refine WL_guard_yes E rfl rfl ?_
            refine S_x (X_pu E S rfl rfl rfl (spec_DropByIndex h0 h1 (by (first | omega | (simp; omega) | (simp; done) | (simp_all; omega) | grind))) (Hp.le.refl _) ?_)
            clear E a S; rintro a v_63 w M_62 hM_62 hv_63 S E
            replace h0 := h0.le hM_62
            replace h1 := h1.le hM_62
            replace hz_6 := hz_6.le hM_62
            replace hz_8 := hz_8.le hM_62
            replace hv_10 := hv_10.le hM_62
            replace hv_12 := hv_12.le hM_62
            replace hv_30 := hv_30.le RB1_mono hM_62
            replace hz_32 := hz_32.le hM_62
            replace hv_34 := hv_34.le RB1_mono hM_62
            replace hv_57 := hv_57.le hM_62
            replace hz_59 := hz_59.le hM_62
            refine WL_guard_yes E rfl rfl ?_
            refine S_v E rfl (R_move E rfl) rfl ?_
            clear E a; intro a E
            have S0 := S; clear S
            obtain ⟨M_64, hM_64, hz_65, S⟩ := S0.freezeI (by (first | omega | (simp; done) | (simp; omega)))
            clear S0
            replace h0 := h0.le hM_64
            replace h1 := h1.le hM_64
            replace hz_6 := hz_6.le hM_64
            replace hz_8 := hz_8.le hM_64
            replace hv_10 := hv_10.le hM_64
            replace hv_12 := hv_12.le hM_64
            replace hv_30 := hv_30.le RB1_mono hM_64
            replace hz_32 := hz_32.le hM_64
            replace hv_34 := hv_34.le RB1_mono hM_64
            replace hv_57 := hv_57.le hM_64
            replace hz_59 := hz_59.le hM_64
            replace hv_63 := hv_63.le hM_64
            refine WL_guard_yes E rfl rfl ?_
            refine S_x (X_pu E S rfl rfl rfl (laws_eq hv_63 hz_65) (Hp.le.refl _) ?_)
            clear E a S; rintro a _ w M_66 hM_66 rfl S E
            replace h0 := h0.le hM_66
            replace h1 := h1.le hM_66
            replace hz_6 := hz_6.le hM_66
            replace hz_8 := hz_8.le hM_66
            replace hv_10 := hv_10.le hM_66
            replace hv_12 := hv_12.le hM_66
            replace hv_30 := hv_30.le RB1_mono hM_66
            replace hz_32 := hz_32.le hM_66
            replace hv_34 := hv_34.le RB1_mono hM_66
            replace hv_57 := hv_57.le hM_66
            replace hz_59 := hz_59.le hM_66
            replace hv_63 := hv_63.le hM_66
            replace hz_65 := hz_65.le hM_66
            refine S_v E rfl (R_pickT E rfl rfl) rfl ?_
            clear E a; intro a E
            refine S_v E rfl (R_move E rfl) rfl ?_
            clear E a; intro a E
            have hc_67 : (decide (filtI (fun _ i => !decide (i ∈ l1) && !decide (i - (l0).length ∈ l1)) 0 l0 = wnthL (l0.take k2) ((l1.take k).map (backF l0.length)))) = true := by (clear S E; first | (rw [List.take_of_length_le (show l0.length ≤ k2 by omega), List.take_of_length_le (show l1.length ≤ k by omega), wn_back]; simp; done) | (rw [List.take_of_length_le (show l0.length ≤ k2 by omega), List.take_of_length_le (show l1.length ≤ k by omega), spd_back]; simp; done) | (simp; done) | decide | (simp [wnthL, filtI]; done) | (rw [List.take_of_length_le (show l0.length ≤ k2 by omega)]; simp; done) | (rw [List.take_of_length_le (show l0.length ≤ k2 by omega), wn_back]; simp; done) | (rw [List.take_of_length_le (show l0.length ≤ k2 by omega), spd_back]; simp; done))
            replace E := E.val (t := 100) rfl hc_67
            replace E := E.val (t := 101) rfl hc_67
            replace E := E.val (t := 102) rfl hc_67
            refine WL_guard_yes E rfl rfl ?_
            refine S_v E rfl (R_move E rfl) rfl ?_
            clear E a; intro a E
            refine WL_guard_yes E rfl rfl ?_
            refine S_v E rfl (R_move E rfl) rfl ?_
            clear E a; intro a E
            refine WL_guard_yes E rfl rfl ?_
            refine S_x (X_pu E S rfl rfl rfl (impl_WithoutNth h0 h1 (by (first | omega | (simp; omega) | (simp; done) | (simp_all; omega) | grind))) (Hp.le.refl _) ?_)
            clear E a S; rintro a v_69 w M_68 hM_68 hv_69 S E
            replace h0 := h0.le hM_68
            replace h1 := h1.le hM_68
            replace hz_6 := hz_6.le hM_68
            replace hz_8 := hz_8.le hM_68
            replace hv_10 := hv_10.le hM_68
            replace hv_12 := hv_12.le hM_68
            replace hv_30 := hv_30.le RB1_mono hM_68
            replace hz_32 := hz_32.le hM_68
            replace hv_34 := hv_34.le RB1_mono hM_68
            replace hv_57 := hv_57.le hM_68
            replace hz_59 := hz_59.le hM_68
            replace hv_63 := hv_63.le hM_68
            replace hz_65 := hz_65.le hM_68
            refine WL_guard_yes E rfl rfl ?_
            refine S_v E rfl (R_move E rfl) rfl ?_
            clear E a; intro a E
            refine WL_guard_yes E rfl rfl ?_
            refine S_x (X_pu E S rfl rfl rfl (laws_eq hv_69 hz_59) (Hp.le.refl _) ?_)
            clear E a S; rintro a _ w M_70 hM_70 rfl S E
            replace h0 := h0.le hM_70
            replace h1 := h1.le hM_70
            replace hz_6 := hz_6.le hM_70
            replace hz_8 := hz_8.le hM_70
            replace hv_10 := hv_10.le hM_70
            replace hv_12 := hv_12.le hM_70
            replace hv_30 := hv_30.le RB1_mono hM_70
            replace hz_32 := hz_32.le hM_70
            replace hv_34 := hv_34.le RB1_mono hM_70
            replace hv_57 := hv_57.le hM_70
            replace hz_59 := hz_59.le hM_70
            replace hv_63 := hv_63.le hM_70
            replace hz_65 := hz_65.le hM_70
            replace hv_69 := hv_69.le hM_70
            refine S_v E rfl (R_pickT E rfl rfl) rfl ?_
            clear E a; intro a E
            refine S_v E rfl (R_move E rfl) rfl ?_
            clear E a; intro a E
            have hc_71 : (decide (wnthL l0 l1 = wnthL (l0.take k2) l1)) = true := by (clear S E; first | (rw [List.take_of_length_le (show l0.length ≤ k2 by omega), List.take_of_length_le (show l1.length ≤ k by omega), wn_back]; simp; done) | (rw [List.take_of_length_le (show l0.length ≤ k2 by omega), List.take_of_length_le (show l1.length ≤ k by omega), spd_back]; simp; done) | (simp; done) | decide | (simp [wnthL, filtI]; done) | (rw [List.take_of_length_le (show l0.length ≤ k2 by omega)]; simp; done) | (rw [List.take_of_length_le (show l0.length ≤ k2 by omega), wn_back]; simp; done) | (rw [List.take_of_length_le (show l0.length ≤ k2 by omega), spd_back]; simp; done))
            replace E := E.val (t := 107) rfl hc_71
            replace E := E.val (t := 108) rfl hc_71
            replace E := E.val (t := 109) rfl hc_71
            refine WL_guard_yes E rfl rfl ?_
            refine S_v E rfl (R_move E rfl) rfl ?_
            clear E a; intro a E
            refine WL_guard_yes E rfl rfl ?_
            refine S_v E rfl (R_move E rfl) rfl ?_
            clear E a; intro a E
            refine WL_guard_yes E rfl rfl ?_
            refine S_x (X_pu E S rfl rfl rfl (impl_DropByIndex h0 h1 (by assumption) (by first | omega | (simp; done) | (simp; omega)) (by first | omega | (simp; done) | (simp; omega))) (Hp.le.refl _) ?_)
            clear E a S; rintro a v_73 w M_72 hM_72 hv_73 S E
            replace h0 := h0.le hM_72
            replace h1 := h1.le hM_72
            replace hz_6 := hz_6.le hM_72
            replace hz_8 := hz_8.le hM_72
            replace hv_10 := hv_10.le hM_72
            replace hv_12 := hv_12.le hM_72
            replace hv_30 := hv_30.le RB1_mono hM_72
            replace hz_32 := hz_32.le hM_72
            replace hv_34 := hv_34.le RB1_mono hM_72
            replace hv_57 := hv_57.le hM_72
            replace hz_59 := hz_59.le hM_72
            replace hv_63 := hv_63.le hM_72
            replace hz_65 := hz_65.le hM_72
            replace hv_69 := hv_69.le hM_72
            refine WL_guard_yes E rfl rfl ?_
            refine S_v E rfl (R_move E rfl) rfl ?_
            clear E a; intro a E
            refine WL_guard_yes E rfl rfl ?_
            refine S_x (X_pu E S rfl rfl rfl (laws_eq hv_73 hz_65) (Hp.le.refl _) ?_)
            clear E a S; rintro a _ w M_74 hM_74 rfl S E
            replace h0 := h0.le hM_74
            replace h1 := h1.le hM_74
            replace hz_6 := hz_6.le hM_74
            replace hz_8 := hz_8.le hM_74
            replace hv_10 := hv_10.le hM_74
            replace hv_12 := hv_12.le hM_74
            replace hv_30 := hv_30.le RB1_mono hM_74
            replace hz_32 := hz_32.le hM_74
            replace hv_34 := hv_34.le RB1_mono hM_74
            replace hv_57 := hv_57.le hM_74
            replace hz_59 := hz_59.le hM_74
            replace hv_63 := hv_63.le hM_74
            replace hz_65 := hz_65.le hM_74
            replace hv_69 := hv_69.le hM_74
            replace hv_73 := hv_73.le hM_74
            refine S_v E rfl (R_pickT E rfl rfl) rfl ?_
            clear E a; intro a E
            refine S_v E rfl (R_move E rfl) rfl ?_
            clear E a; intro a E
            have hc_75 : (decide (wnthL l0 ((l1).map (adjN (l0).length)) = wnthL (l0.take k2) ((l1.take k).map (backF l0.length)))) = true := by (clear S E; first | (rw [List.take_of_length_le (show l0.length ≤ k2 by omega), List.take_of_length_le (show l1.length ≤ k by omega), wn_back]; simp; done) | (rw [List.take_of_length_le (show l0.length ≤ k2 by omega), List.take_of_length_le (show l1.length ≤ k by omega), spd_back]; simp; done) | (simp; done) | decide | (simp [wnthL, filtI]; done) | (rw [List.take_of_length_le (show l0.length ≤ k2 by omega)]; simp; done) | (rw [List.take_of_length_le (show l0.length ≤ k2 by omega), wn_back]; simp; done) | (rw [List.take_of_length_le (show l0.length ≤ k2 by omega), spd_back]; simp; done))
            replace E := E.val (t := 114) rfl hc_75
            replace E := E.val (t := 115) rfl hc_75
            replace E := E.val (t := 116) rfl hc_75
            refine WL_guard_yes E rfl rfl ?_
            refine S_v E rfl (R_move E rfl) rfl ?_
            clear E a; intro a E
            refine WL_guard_yes E rfl rfl ?_
            refine S_v E rfl (R_move E rfl) rfl ?_
            clear E a; intro a E
            refine WL_guard_yes E rfl rfl ?_
            refine S_x (X_pu E S rfl rfl rfl (impl_WithoutNthSeq h0 h1 (by (first | omega | (simp; omega) | (simp; done) | (simp_all; omega) | grind))) (Hp.le.refl _) ?_)
            clear E a S; rintro a v_77 w M_76 hM_76 hv_77 S E
            replace h0 := h0.le hM_76
            replace h1 := h1.le hM_76
            replace hz_6 := hz_6.le hM_76
            replace hz_8 := hz_8.le hM_76
            replace hv_10 := hv_10.le hM_76
            replace hv_12 := hv_12.le hM_76
            replace hv_30 := hv_30.le RB1_mono hM_76
            replace hz_32 := hz_32.le hM_76
            replace hv_34 := hv_34.le RB1_mono hM_76
            replace hv_57 := hv_57.le hM_76
            replace hz_59 := hz_59.le hM_76
            replace hv_63 := hv_63.le hM_76
            replace hz_65 := hz_65.le hM_76
            replace hv_69 := hv_69.le hM_76
            replace hv_73 := hv_73.le hM_76
            refine WL_guard_yes E rfl rfl ?_
            refine S_v E rfl (R_move E rfl) rfl ?_
            clear E a; intro a E
            refine WL_guard_yes E rfl rfl ?_
            refine S_x (X_pu E S rfl rfl rfl (laws_eq hv_77 hz_59) (Hp.le.refl _) ?_)
            clear E a S; rintro a _ w M_78 hM_78 rfl S E
            replace h0 := h0.le hM_78
            replace h1 := h1.le hM_78
            replace hz_6 := hz_6.le hM_78
            replace hz_8 := hz_8.le hM_78
            replace hv_10 := hv_10.le hM_78
            replace hv_12 := hv_12.le hM_78
            replace hv_30 := hv_30.le RB1_mono hM_78
            replace hz_32 := hz_32.le hM_78
            replace hv_34 := hv_34.le RB1_mono hM_78
            replace hv_57 := hv_57.le hM_78
            replace hz_59 := hz_59.le hM_78
            replace hv_63 := hv_63.le hM_78
            replace hz_65 := hz_65.le hM_78
            replace hv_69 := hv_69.le hM_78
            replace hv_73 := hv_73.le hM_78
            replace hv_77 := hv_77.le hM_78
            refine S_v E rfl (R_pickT E rfl rfl) rfl ?_
            clear E a; intro a E
            refine S_v E rfl (R_move E rfl) rfl ?_
            clear E a; intro a E
            have hc_79 : (decide (wnthL l0 l1 = wnthL (l0.take k2) l1)) = true := by (clear S E; first | (rw [List.take_of_length_le (show l0.length ≤ k2 by omega), List.take_of_length_le (show l1.length ≤ k by omega), wn_back]; simp; done) | (rw [List.take_of_length_le (show l0.length ≤ k2 by omega), List.take_of_length_le (show l1.length ≤ k by omega), spd_back]; simp; done) | (simp; done) | decide | (simp [wnthL, filtI]; done) | (rw [List.take_of_length_le (show l0.length ≤ k2 by omega)]; simp; done) | (rw [List.take_of_length_le (show l0.length ≤ k2 by omega), wn_back]; simp; done) | (rw [List.take_of_length_le (show l0.length ≤ k2 by omega), spd_back]; simp; done))
            replace E := E.val (t := 121) rfl hc_79
            replace E := E.val (t := 122) rfl hc_79
            replace E := E.val (t := 123) rfl hc_79
            refine WL_guard_yes E rfl rfl ?_
            refine S_v E rfl (R_move E rfl) rfl ?_
            clear E a; intro a E
            refine WL_guard_yes E rfl rfl ?_
            refine S_v E rfl (R_move E rfl) rfl ?_
            clear E a; intro a E
            refine WL_guard_yes E rfl rfl ?_
            refine S_x (X_pu E S rfl rfl rfl (impl_DropByIndexSeq h0 h1 (by (first | omega | (simp; omega) | (simp; done) | (simp_all; omega) | grind))) (Hp.le.refl _) ?_)
            clear E a S; rintro a v_81 w M_80 hM_80 hv_81 S E
            replace h0 := h0.le hM_80
            replace h1 := h1.le hM_80
            replace hz_6 := hz_6.le hM_80
            replace hz_8 := hz_8.le hM_80
            replace hv_10 := hv_10.le hM_80
            replace hv_12 := hv_12.le hM_80
            replace hv_30 := hv_30.le RB1_mono hM_80
            replace hz_32 := hz_32.le hM_80
            replace hv_34 := hv_34.le RB1_mono hM_80
            replace hv_57 := hv_57.le hM_80
            replace hz_59 := hz_59.le hM_80
            replace hv_63 := hv_63.le hM_80
            replace hz_65 := hz_65.le hM_80
            replace hv_69 := hv_69.le hM_80
            replace hv_73 := hv_73.le hM_80
            replace hv_77 := hv_77.le hM_80
            refine WL_guard_yes E rfl rfl ?_
            refine S_v E rfl (R_move E rfl) rfl ?_
            clear E a; intro a E
            refine WL_guard_yes E rfl rfl ?_
            refine S_x (X_pu E S rfl rfl rfl (laws_eq hv_81 hz_59) (Hp.le.refl _) ?_)
            clear E a S; rintro a _ w M_82 hM_82 rfl S E
            replace h0 := h0.le hM_82
            replace h1 := h1.le hM_82
            replace hz_6 := hz_6.le hM_82
            replace hz_8 := hz_8.le hM_82
            replace hv_10 := hv_10.le hM_82
            replace hv_12 := hv_12.le hM_82
            replace hv_30 := hv_30.le RB1_mono hM_82
            replace hz_32 := hz_32.le hM_82
            replace hv_34 := hv_34.le RB1_mono hM_82
            replace hv_57 := hv_57.le hM_82
            replace hz_59 := hz_59.le hM_82
            replace hv_63 := hv_63.le hM_82
            replace hz_65 := hz_65.le hM_82
            replace hv_69 := hv_69.le hM_82
            replace hv_73 := hv_73.le hM_82
            replace hv_77 := hv_77.le hM_82
            replace hv_81 := hv_81.le hM_82
            refine S_v E rfl (R_pickT E rfl rfl) rfl ?_
            clear E a; intro a E
            refine S_v E rfl (R_assign E rfl) rfl ?_
            clear E a; intro a E
            refine WL_nil ?_
            refine T_n ?_
            refine WP_ret ?_
            exact F_ret1 E Try.results6 rfl ⟨_, rfl, M_82, (hM_5.trans (hM_7.trans (hM_9.trans (hM_13.trans (hM_14.trans (hM_17.trans (hM_29.trans (hM_31.trans (hM_33.trans (hM_37.trans (hM_56.trans (hM_58.trans (hM_60.trans (hM_62.trans (hM_64.trans (hM_66.trans (hM_68.trans (hM_70.trans (hM_72.trans (hM_74.trans (hM_76.trans (hM_78.trans (hM_80.trans hM_82))))))))))))))))))))))), (congrArg Value.bool (by (clear S E; first | (rw [List.take_of_length_le (show l0.length ≤ k2 by omega), List.take_of_length_le (show l1.length ≤ k by omega), wn_back]; simp; done) | (rw [List.take_of_length_le (show l0.length ≤ k2 by omega), List.take_of_length_le (show l1.length ≤ k by omega), spd_back]; simp; done) | (simp; done) | decide | (simp [wnthL, filtI]; done) | (rw [List.take_of_length_le (show l0.length ≤ k2 by omega)]; simp; done) | (rw [List.take_of_length_le (show l0.length ≤ k2 by omega), wn_back]; simp; done) | (rw [List.take_of_length_le (show l0.length ≤ k2 by omega), spd_back]; simp; done)))), S⟩

end Go.Proofs.Ytpncgdecfhfjmaa.wFnWithoutPlaces
