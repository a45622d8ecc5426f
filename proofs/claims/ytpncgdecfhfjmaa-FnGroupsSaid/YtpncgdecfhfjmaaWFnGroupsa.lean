/- Walks through the functions that laws.FnGroups reaches: what each computes; no conditions beyond what each theorem states. -/
import Derived.Test.YtpncgdecfhfjmaaProg
import Derived.Test.YtpncgdecfhfjmaaSlZ
import Derived.Ground.SlgmProg
import Derived.Ground.GgsProg
set_option linter.unusedVariables false
set_option linter.unusedSimpArgs false
namespace Go.Proofs.Ytpncgdecfhfjmaa.wFnGroups
open Go Go.Sl
theorem Try.mixed : Try.prog.follows .mixedOrders = true := by kernel_rfl
theorem T22 : SlT Try.prog 22 3 1 8 (.int .i64 0) := ⟨Try.underlying22, ⟨Try.t3, by kernel_rfl, rfl, rfl, rfl⟩, rfl, by decide⟩
theorem T25 : SlT Try.prog 25 31 2 32 (.agg #[(.int .i64 0), (.slice none 0 0)]) := ⟨Try.underlying25, ⟨Try.t31, by kernel_rfl, rfl, rfl, rfl⟩, rfl, by decide⟩
theorem T48 : SlT Try.prog 48 77 2 32 (.agg #[(.int .i64 0), (.slice none 0 0)]) := ⟨Try.underlying48, ⟨Try.t77, by kernel_rfl, rfl, rfl, rfl⟩, rfl, by decide⟩
theorem T54 : SlT Try.prog 54 22 1 24 (.slice none 0 0) := ⟨Try.underlying54, ⟨Try.t22, by kernel_rfl, rfl, rfl, rfl⟩, rfl, by decide⟩
theorem MT65 : MapT Try.prog 65 3 22 (.slice none 0 0) := ⟨Try.underlying65, Try.underlying3, ⟨Try.t22, by kernel_rfl, rfl⟩⟩
theorem MT72 : MapT Try.prog 72 3 3 (.int .i64 0) := ⟨Try.underlying72, Try.underlying3, ⟨Try.t3, by kernel_rfl, rfl⟩⟩
theorem FB24__ (w : World) : (Instr.build 24 #[]).run Try.prog w = .ok (.agg #[(.int .i64 0), (.int .i64 0)]) w := run_build _ _ _ _ (by kernel_rfl)
theorem FB31_0_1_is (x0 : Int) (x1 : Option Addr) (n1 c1 : Nat) (w : World) : (Instr.build 31 #[(0, (.int .i64 x0)), (1, (.slice x1 n1 c1))]).run Try.prog w = .ok (.agg #[(.int .i64 x0), (.slice x1 n1 c1)]) w := run_build _ _ _ _ (by kernel_rfl)
theorem FB37_0_i (x0 : Int) (w : World) : (Instr.build 37 #[(0, (.int .i64 x0))]).run Try.prog w = .ok (.agg #[(.int .i64 x0), (.int .i64 0)]) w := run_build _ _ _ _ (by kernel_rfl)
theorem FB77_0_i (x0 : Int) (w : World) : (Instr.build 77 #[(0, (.int .i64 x0))]).run Try.prog w = .ok (.agg #[(.int .i64 x0), (.slice none 0 0)]) w := run_build _ _ _ _ (by kernel_rfl)
theorem FA24_0 (p : Addr) (w : World) : (Instr.fieldAt 24 (.pointer (some p)) 0).run Try.prog w = .ok (.pointer (some (p.add 0))) w := by kernel_rfl
theorem FA24_1 (p : Addr) (w : World) : (Instr.fieldAt 24 (.pointer (some p)) 1).run Try.prog w = .ok (.pointer (some (p.add 1))) w := by kernel_rfl
theorem FA31_0 (p : Addr) (w : World) : (Instr.fieldAt 31 (.pointer (some p)) 0).run Try.prog w = .ok (.pointer (some (p.add 0))) w := by kernel_rfl
theorem FA31_1 (p : Addr) (w : World) : (Instr.fieldAt 31 (.pointer (some p)) 1).run Try.prog w = .ok (.pointer (some (p.add 1))) w := by kernel_rfl
theorem FA37_0 (p : Addr) (w : World) : (Instr.fieldAt 37 (.pointer (some p)) 0).run Try.prog w = .ok (.pointer (some (p.add 0))) w := by kernel_rfl
theorem FA37_1 (p : Addr) (w : World) : (Instr.fieldAt 37 (.pointer (some p)) 1).run Try.prog w = .ok (.pointer (some (p.add 1))) w := by kernel_rfl
theorem FA77_0 (p : Addr) (w : World) : (Instr.fieldAt 77 (.pointer (some p)) 0).run Try.prog w = .ok (.pointer (some (p.add 0))) w := by kernel_rfl
theorem FA77_1 (p : Addr) (w : World) : (Instr.fieldAt 77 (.pointer (some p)) 1).run Try.prog w = .ok (.pointer (some (p.add 1))) w := by kernel_rfl
theorem tmod_emod (a b : Int) (hb : b ≠ 0) : (Int.tmod a b = a % b ∨ Int.tmod a b = a % b - b.natAbs) ∧ 0 ≤ a % b ∧ a % b < b.natAbs := by
  refine ⟨?_, Int.emod_nonneg _ hb, ?_⟩
  · rw [Int.tmod_eq_emod]; split <;> simp
  · have := Int.emod_lt a hb; omega
def w64 (x : Int) : Int := IntKind.i64.wrap x
def keyAt (k n x i : Int) : Int :=
  if k = 0 then w64 (x + n) else if k = 1 then w64 (x * n) else if k = 2 then (if n = 0 then x else x % n) else if k = 3 then n else if k = 4 then i else x
theorem w64_in {x : Int} (h : -9223372036854775808 ≤ x ∧ x ≤ 9223372036854775807) : w64 x = x := wrap_in h
theorem w64_range (x : Int) : -9223372036854775808 ≤ w64 x ∧ w64 x ≤ 9223372036854775807 := by
  unfold w64 IntKind.wrap; simp [IntKind.signed, IntKind.bits]; omega
def mapI (f : Int → Int → Int) : Nat → List Int → List Int
  | _, [] => []
  | i, x :: l => f x i :: mapI f (i + 1) l
theorem mapI_append (f : Int → Int → Int) : ∀ (a b : List Int) (i : Nat), mapI f i (a ++ b) = mapI f i a ++ mapI f (i + a.length) b
  | [], b, i => by simp [mapI]
  | x :: a, b, i => by
    simp only [List.cons_append, mapI, mapI_append f a b (i + 1), List.length_cons]
    rw [show i + 1 + a.length = i + (a.length + 1) by omega]
theorem mapI_succ {f : Int → Int → Int} {l : List Int} {k : Nat} {x : Int} (h : l[k]? = some x) : mapI f 0 (l.take (k + 1)) = mapI f 0 (l.take k) ++ [f x k] := by
  have hk := (List.getElem?_eq_some_iff.1 h).1
  rw [List.take_add_one, h, mapI_append]
  simp only [Option.toList_some, mapI, List.length_take, Nat.zero_add, Nat.min_eq_left (Nat.le_of_lt hk)]

theorem modA (x n : Int) (hn : 0 < n) : (0 ≤ x % n ∧ x % n < n) ∧ (((-x) % n = 0 ∧ x % n = 0) ∨ (0 < (-x) % n ∧ x % n = n - (-x) % n)) := by
  have h1 := Int.emod_nonneg x (show n ≠ 0 by omega)
  have h2 := Int.emod_lt_of_pos x hn
  refine ⟨⟨h1, h2⟩, ?_⟩
  have h3 := Int.emod_nonneg (-x) (show n ≠ 0 by omega)
  have h4 := Int.emod_lt_of_pos (-x) hn
  have h5 : (x % n + (-x) % n) % n = 0 := by rw [← Int.add_emod, Int.add_right_neg, Int.zero_emod]
  have h6 : n ∣ (x % n + (-x) % n) := Int.dvd_of_emod_eq_zero h5
  obtain ⟨q, hq⟩ := h6
  have h7 : q = 0 ∨ q = 1 := by
    have hq0 : 0 ≤ q := by
      refine Int.not_lt.1 fun hlt => ?_
      have : n * q < 0 := Int.mul_neg_of_pos_of_neg hn hlt
      omega
    have hq2 : q < 2 := by
      refine Int.not_le.1 fun hle => ?_
      have : n * 2 ≤ n * q := Int.mul_le_mul_of_nonneg_left hle (by omega)
      omega
    omega
  rcases h7 with rfl | rfl
  · left; omega
  · by_cases h8 : (-x) % n = 0
    · omega
    · right; omega

def PF2T (P : Program) (fv : Value) (M : Hp) (f : Int → Int → Int × Bool) : Prop := fv.oneCell' = true ∧ ∀ x i : Int, Pu P fv M [.int .i64 x, .int .i64 i] (fun r _ => r = .tuple #[.int .i64 (f x i).1, .bool (f x i).2])
theorem PF2T.le {P : Program} {fv : Value} {M M' : Hp} {f : Int → Int → Int × Bool} (h : PF2T P fv M f) (hM : Hp.le M M') : PF2T P fv M' f := ⟨h.1, fun x i => (h.2 x i).le hM⟩
theorem map_set {f : Int → Int → Int} {l : List Int} {k : Nat} {x : Int} (hk : (mapI f 0 (l.take k)).length = k) (hx : l[k]? = some x) : (mapI f 0 (l.take k) ++ l.drop k).set k (f x k) = mapI f 0 (l.take (k + 1)) ++ l.drop (k + 1) := by
  have hlt := (List.getElem?_eq_some_iff.1 hx).1
  rw [List.set_append_right _ _ (by omega), hk, Nat.sub_self, List.drop_eq_getElem_cons hlt, List.set_cons_zero, mapI_succ hx, List.append_assoc]; rfl
def keyL (l : List Int) : List Int := l.foldl addS []
theorem keyL_succ {l : List Int} {k : Nat} {x : Int} (h : l[k]? = some x) : keyL (l.take (k + 1)) = addS (keyL (l.take k)) x := by rw [List.take_add_one, h]; simp [keyL]
theorem mem_foldl_addS (l : List Int) : ∀ (s : List Int) (x : Int), x ∈ l.foldl addS s ↔ x ∈ s ∨ x ∈ l := by
  induction l with
  | nil => intro s x; simp
  | cons a l ih => intro s x; rw [List.foldl_cons, ih, mem_addS]; simp [or_assoc]
theorem mem_keyL {l : List Int} {x : Int} : x ∈ keyL l ↔ x ∈ l := by unfold keyL; rw [mem_foldl_addS]; simp
theorem keyL_nodup (l : List Int) : (keyL l).Nodup := by
  unfold keyL
  suffices h : ∀ (l s : List Int), s.Nodup → (l.foldl addS s).Nodup from h l [] (by simp)
  intro l; induction l with
  | nil => intro s h; exact h
  | cons a l ih => intro s h; exact ih _ (addS_nodup h a)
theorem take_all {P : Int → Prop} {l : List Int} {k : Nat} {y : Int} (h : ∀ x ∈ l.take k, P x) (hy : l[k]? = some y) (hp : P y) : ∀ x ∈ l.take (k + 1), P x := by
  intro x hx; rw [List.take_add_one, hy, List.mem_append] at hx
  rcases hx with hx | hx
  · exact h x hx
  · simp at hx; rw [hx]; exact hp
def fiI (f : Int → Bool) : List Int → Int
  | [] => -1
  | x :: l => if f x then 0 else (if fiI f l < 0 then -1 else fiI f l + 1)
theorem fiI_cons (f : Int → Bool) (a : Int) (l : List Int) : fiI f (a :: l) = if f a then 0 else (if fiI f l < 0 then -1 else fiI f l + 1) := rfl
def fiV (f : Int → Bool) (l : List Int) : Int := (l.find? f).getD 0
theorem fi_all {f : Int → Bool} : ∀ {p : List Int} {r : List Int}, (∀ x ∈ p, f x = false) → fiI f (p ++ r) = (if fiI f r < 0 then -1 else fiI f r + p.length) ∧ fiV f (p ++ r) = fiV f r ∧ (p ++ r).any f = r.any f
  | [], r, _ => by
    refine ⟨?_, rfl, rfl⟩
    simp only [List.nil_append, List.length_nil]; split
    · have h : ∀ r : List Int, fiI f r < 0 → fiI f r = -1 := by
        intro r; induction r with
        | nil => intro _; rfl
        | cons a r ih => intro h; rw [fiI_cons] at h ⊢; by_cases ha : f a = true
                         · rw [if_pos ha] at h; omega
                         · rw [if_neg ha] at h ⊢; split at h <;> rename_i h1
                           · rw [if_pos h1]
                           · omega
      exact h r (by assumption)
    · simp
  | a :: p, r, h => by
    have ha : f a = false := h a (by simp)
    obtain ⟨h1, h2, h3⟩ := fi_all (p := p) (r := r) fun x hx => h x (by simp [hx])
    refine ⟨?_, ?_, ?_⟩
    · rw [List.cons_append, fiI_cons, if_neg (by simp [ha]), h1]
      by_cases hr : fiI f r < 0
      · simp [hr]
      · simp only [hr, if_false]; rw [if_neg (by omega)]; simp; omega
    · rw [List.cons_append]; unfold fiV at h2 ⊢; rw [List.find?_cons, ha]; exact h2
    · rw [List.cons_append, List.any_cons, ha, h3]; rfl
theorem fi_none {f : Int → Bool} {l : List Int} (h : ∀ x ∈ l, f x = false) : fiI f l = -1 ∧ fiV f l = 0 ∧ l.any f = false := by
  have := fi_all (r := []) h; simpa [fiI, fiV] using this
theorem fi_pre {f : Int → Bool} {p l : List Int} {x : Int} (h : p ++ [x] <+: l) (ha : ∀ y ∈ p, f y = false) (hx : f x = true) : fiI f l = p.length ∧ fiV f l = x ∧ l.any f = true := by
  obtain ⟨r, rfl⟩ := h
  rw [List.append_assoc]
  have h1 := fi_all (r := [x] ++ r) ha
  simp only [List.cons_append, List.nil_append, fiI, hx, if_true, fiV, List.find?_cons, List.any_cons] at h1
  simpa [fiV] using h1
theorem fi_yes {f : Int → Bool} {l : List Int} {k : Nat} {x : Int} (h : ∀ x ∈ l.take k, f x = false) (hx : l[k]? = some x) (hf : f x = true) : fiI f l = k ∧ fiV f l = x ∧ l.any f = true := by
  have hk := (List.getElem?_eq_some_iff.1 hx).1
  have := fi_pre (pre_take_lt hx) h hf
  rw [List.length_take, Nat.min_eq_left (by omega)] at this; exact this
theorem fi_no {f : Int → Bool} {l : List Int} {k : Nat} (h : ∀ x ∈ l.take k, f x = false) (hk : l.length ≤ k) : fiI f l = -1 ∧ fiV f l = 0 ∧ l.any f = false := by
  rw [List.take_of_length_le hk] at h; exact fi_none h
def eqx (x y : Int) : Bool := decide (y = x)
theorem eqx_yes {x y : Int} (h : y = x) : eqx x y = true := decide_eq_true h
theorem eqx_no {x y : Int} (h : ¬ y = x) : eqx x y = false := decide_eq_false h
theorem eqx_yes' {x y : Int} (h : x = y) : eqx x y = true := decide_eq_true h.symm
theorem eqx_no' {x y : Int} (h : ¬ x = y) : eqx x y = false := decide_eq_false fun e => h e.symm
theorem take_s {l : List Int} {k : Nat} {x : Int} (hx : l[k]? = some x) : l.take (k + 1) = l.take k ++ [x] ∧ (l.take k).length = k := by
  have hk := (List.getElem?_eq_some_iff.1 hx).1
  rw [List.take_add_one, hx]; exact ⟨rfl, by rw [List.length_take]; omega⟩
theorem map_take_s {l : List Int} {k : Nat} {x : Int} (f : Int → Int) (hx : l[k]? = some x) : (l.take (k + 1)).map f = (l.take k).map f ++ [f x] := by
  rw [(take_s hx).1]; simp
theorem key5 (n : Int) : (fun x : Int => keyAt 5 n x 0) = fun x => x := by funext x; simp [keyAt]
theorem map_key5 (n : Int) (l : List Int) : l.map (fun x : Int => keyAt 5 n x 0) = l := by rw [key5]; simp

theorem foldl_inv {σ : Type} (f : σ → Int → σ) (Q : List Int → σ → Prop) (s0 : σ) (h0 : Q [] s0) (hs : ∀ p x, Q p (p.foldl f s0) → Q (p ++ [x]) (f (p.foldl f s0) x)) : ∀ (n : Nat) (l : List Int), l.length = n → Q l (l.foldl f s0)
  | 0, l, h => by have := List.eq_nil_of_length_eq_zero h; subst this; exact h0
  | n + 1, l, h => by
    obtain ⟨p, x, rfl⟩ : ∃ p x, l = p ++ [x] := ⟨l.dropLast, l.getLast (by intro e; subst e; simp at h), (List.dropLast_concat_getLast _).symm⟩
    have ih := foldl_inv f Q s0 h0 hs n p (by simpa using h)
    have e : (p ++ [x]).foldl f s0 = f (p.foldl f s0) x := by simp
    rw [e]; exact hs p x ih
theorem take_snoc {b : List Int} {i : Nat} {x : Int} (h : b[i]? = some x) : b.take (i + 1) = b.take i ++ [x] := by rw [List.take_add_one, h]; rfl
/-! ## a list sorted by insertions -/
def insI (x : Int) (l : List Int) : List Int := l.takeWhile (fun y => decide (y ≤ x)) ++ x :: l.dropWhile (fun y => decide (y ≤ x))
def sortI (l : List Int) : List Int := l.foldl (fun s x => insI x s) []
theorem insI_len (x : Int) (l : List Int) : (insI x l).length = l.length + 1 := by
  have := congrArg List.length (List.takeWhile_append_dropWhile (p := fun y => decide (y ≤ x)) (l := l))
  rw [List.length_append] at this
  unfold insI; simp only [List.length_append, List.length_cons]; omega
theorem insI_perm (x : Int) (l : List Int) : (insI x l).Perm (x :: l) := by
  unfold insI
  refine List.perm_middle.trans ?_
  rw [List.takeWhile_append_dropWhile]
theorem sortI_app (l : List Int) (x : Int) : sortI (l ++ [x]) = insI x (sortI l) := by simp [sortI]
theorem sortI_len (l : List Int) : (sortI l).length = l.length :=
  foldl_inv (fun s x => insI x s) (fun p s => s.length = p.length) [] rfl (fun p x h => by rw [insI_len, h]; simp) _ l rfl
theorem sortI_perm (l : List Int) : (sortI l).Perm l :=
  foldl_inv (fun s x => insI x s) (fun p s => s.Perm p) [] (List.Perm.refl _) (fun p x h => (insI_perm x _).trans ((h.cons x).trans (List.perm_append_singleton x p).symm)) _ l rfl
theorem ins_at {s : List Int} {x : Int} {j : Nat} (hj : j ≤ s.length) (h : ∀ y ∈ s.take j, y ≤ x) (h2 : s.length ≤ j ∨ ∃ v, s[j]? = some v ∧ ¬ v ≤ x) : s.take j ++ [x] ++ s.drop j = insI x s := by
  have e1 : s.takeWhile (fun y => decide (y ≤ x)) = s.take j ∧ s.dropWhile (fun y => decide (y ≤ x)) = s.drop j := by
    clear hj
    induction s generalizing j with
    | nil => simp
    | cons a s ih =>
      cases j with
      | zero =>
        rcases h2 with h2 | ⟨v, hv, hn⟩
        · simp at h2
        · have : a = v := by simpa using hv
          subst this
          simp [List.takeWhile_cons, List.dropWhile_cons, hn]
      | succ j =>
        have ha : a ≤ x := h a (by simp)
        have := ih (j := j) (fun y hy => h y (by simp [hy])) (by
          rcases h2 with h2 | ⟨v, hv, hn⟩
          · left; simp at h2; omega
          · right; exact ⟨v, by simpa using hv, hn⟩)
        simp [List.takeWhile_cons, List.dropWhile_cons, ha, this.1, this.2]
  unfold insI; rw [e1.1, e1.2]; simp
def SortedI (l : List Int) : Prop := l.Pairwise (· ≤ ·)
theorem insI_sorted {x : Int} {l : List Int} (h : SortedI l) : SortedI (insI x l) := by
  unfold SortedI at h ⊢
  induction l with
  | nil => simp [insI]
  | cons a l ih =>
    rw [List.pairwise_cons] at h
    by_cases ha : a ≤ x
    · have e : insI x (a :: l) = a :: insI x l := by unfold insI; simp [List.takeWhile_cons, List.dropWhile_cons, ha]
      rw [e, List.pairwise_cons]
      refine ⟨fun y hy => ?_, ih h.2⟩
      rcases List.mem_cons.1 ((insI_perm x l).subset hy) with rfl | hy
      · exact ha
      · exact h.1 y hy
    · have e : insI x (a :: l) = x :: a :: l := by unfold insI; simp [List.takeWhile_cons, List.dropWhile_cons, ha]
      rw [e, List.pairwise_cons, List.pairwise_cons]
      refine ⟨fun y hy => ?_, h⟩
      rcases List.mem_cons.1 hy with rfl | hy
      · omega
      · have := h.1 y hy; omega
theorem sortI_sorted (l : List Int) : SortedI (sortI l) :=
  foldl_inv (fun s x => insI x s) (fun _ s => SortedI s) [] List.Pairwise.nil (fun p x h => insI_sorted h) _ l rfl
theorem sorted_eq : ∀ {a b : List Int}, SortedI a → SortedI b → a.Perm b → a = b
  | [], b, _, _, h => (List.nil_perm.1 h).symm ▸ rfl
  | x :: a, [], _, _, h => by simp at h
  | x :: a, y :: b, ha, hb, h => by
    unfold SortedI at ha hb
    rw [List.pairwise_cons] at ha hb
    have h1 : x ≤ y := by
      rcases List.mem_cons.1 (h.symm.subset (List.mem_cons_self ..)) with e | e
      · omega
      · exact ha.1 y e
    have h2 : y ≤ x := by
      rcases List.mem_cons.1 (h.subset (List.mem_cons_self ..)) with e | e
      · omega
      · exact hb.1 x e
    have e : x = y := by omega
    subst e
    rw [sorted_eq ha.2 hb.2 ((List.perm_cons x).1 h)]
theorem sortI_take {l : List Int} {k : Nat} {x : Int} (h : l[k]? = some x) : sortI (l.take (k + 1)) = insI x (sortI (l.take k)) := by rw [(take_s h).1, sortI_app]

/-! ## a set, as a rising list -/
def insU (x : Int) (l : List Int) : List Int := l.takeWhile (fun y => decide (y < x)) ++ (if x ∈ l then [] else [x]) ++ l.dropWhile (fun y => decide (y < x))
def setI (l : List Int) : List Int := l.foldl (fun s x => insU x s) []
def SortedU (l : List Int) : Prop := l.Pairwise (· < ·)
theorem setI_app (l : List Int) (x : Int) : setI (l ++ [x]) = insU x (setI l) := by simp [setI]
theorem setI_take {l : List Int} {k : Nat} {x : Int} (h : l[k]? = some x) : setI (l.take (k + 1)) = insU x (setI (l.take k)) := by rw [(take_s h).1, setI_app]
theorem insU_same {x : Int} {l : List Int} (h : x ∈ l) : insU x l = l := by
  unfold insU; rw [if_pos h, List.append_nil, List.takeWhile_append_dropWhile]
theorem insU_mem {x z : Int} {l : List Int} : z ∈ insU x l ↔ z = x ∨ z ∈ l := by
  by_cases h : x ∈ l
  · rw [insU_same h]; constructor
    · exact .inr
    · rintro (rfl | h2); exact h; exact h2
  · unfold insU; rw [if_neg h]
    have e : l = l.takeWhile (fun y => decide (y < x)) ++ l.dropWhile (fun y => decide (y < x)) := (List.takeWhile_append_dropWhile).symm
    conv => rhs; rw [e]
    simp only [List.mem_append, List.mem_singleton]
    constructor
    · rintro ((h1 | h1) | h1); exact .inr (.inl h1); exact .inl h1; exact .inr (.inr h1)
    · rintro (h1 | h1 | h1); exact .inl (.inr h1); exact .inl (.inl h1); exact .inr h1
theorem insU_len (x : Int) (l : List Int) : (insU x l).length ≤ l.length + 1 := by
  have := congrArg List.length (List.takeWhile_append_dropWhile (p := fun y => decide (y < x)) (l := l))
  rw [List.length_append] at this
  unfold insU; simp only [List.length_append]; split <;> simp <;> omega
theorem insU_sorted {x : Int} {l : List Int} (h : SortedU l) : SortedU (insU x l) := by
  by_cases hx : x ∈ l
  · rw [insU_same hx]; exact h
  · unfold insU; rw [if_neg hx]
    unfold SortedU at h ⊢
    induction l with
    | nil => simp
    | cons a l ih =>
      have hx2 : x ∉ l := fun e => hx (by simp [e])
      rw [List.pairwise_cons] at h
      by_cases ha : a < x
      · simp only [List.takeWhile_cons, List.dropWhile_cons, ha, decide_true, if_true, List.cons_append, List.pairwise_cons]
        refine ⟨fun y hy => ?_, ih h.2 hx2⟩
        have e : l.takeWhile (fun y => decide (y < x)) ++ l.dropWhile (fun y => decide (y < x)) = l := List.takeWhile_append_dropWhile
        simp only [List.mem_append, List.mem_singleton] at hy
        rcases hy with (hy | hy) | hy
        · exact h.1 y (by rw [← e]; exact List.mem_append_left _ hy)
        · omega
        · exact h.1 y (by rw [← e]; exact List.mem_append_right _ hy)
      · have hne : x ≠ a := fun e => hx (by simp [e])
        simp only [List.takeWhile_cons, List.dropWhile_cons, ha, decide_false, Bool.false_eq_true, if_false, List.nil_append, List.singleton_append, List.pairwise_cons]
        refine ⟨fun y hy => ?_, h.1, h.2⟩
        rcases List.mem_cons.1 hy with rfl | hy
        · omega
        · have := h.1 y hy; omega
theorem setI_spec (l : List Int) : SortedU (setI l) ∧ (∀ z, z ∈ setI l ↔ z ∈ l) ∧ (setI l).length ≤ l.length :=
  foldl_inv (fun s x => insU x s) (fun p s => SortedU s ∧ (∀ z, z ∈ s ↔ z ∈ p) ∧ s.length ≤ p.length) [] ⟨List.Pairwise.nil, fun z => Iff.rfl, Nat.le_refl _⟩ (fun p x h => ⟨insU_sorted h.1, fun z => by rw [insU_mem, h.2.1, List.mem_append, List.mem_singleton]; exact Or.comm, by have := insU_len x (p.foldl (fun s x => insU x s) []); simp; omega⟩) _ l rfl
theorem SortedU.nodup {l : List Int} (h : SortedU l) : l.Nodup := List.Pairwise.imp (fun h => by omega) h
theorem SortedU.le {l : List Int} (h : SortedU l) : SortedI l := List.Pairwise.imp (fun h => by omega) h
theorem setI_eq {a b : List Int} (h : ∀ z, z ∈ a ↔ z ∈ b) : setI a = setI b := by
  have ha := setI_spec a
  have hb := setI_spec b
  refine sorted_eq ha.1.le hb.1.le ((List.perm_ext_iff_of_nodup ha.1.nodup hb.1.nodup).2 fun z => ?_)
  rw [ha.2.1, hb.2.1, h]
theorem split_at {p : Int → Bool} {s : List Int} {j : Nat} (h : ∀ y ∈ s.take j, p y = true) (h2 : s.length ≤ j ∨ ∃ v, s[j]? = some v ∧ p v = false) : s.takeWhile p = s.take j ∧ s.dropWhile p = s.drop j := by
  induction s generalizing j with
  | nil => simp
  | cons a s ih =>
    cases j with
    | zero =>
      rcases h2 with h2 | ⟨v, hv, hn⟩
      · simp at h2
      · have : a = v := by simpa using hv
        subst this
        simp [List.takeWhile_cons, List.dropWhile_cons, hn]
    | succ j =>
      have ha : p a = true := h a (by simp)
      have := ih (j := j) (fun y hy => h y (by simp [hy])) (by
        rcases h2 with h2 | ⟨v, hv, hn⟩
        · left; simp at h2; omega
        · right; exact ⟨v, by simpa using hv, hn⟩)
      simp [List.takeWhile_cons, List.dropWhile_cons, ha, this.1, this.2]
theorem set_at {s : List Int} {x : Int} {j : Nat} (hs : SortedU s) (h : ∀ y ∈ s.take j, y < x) (h2 : s.length ≤ j ∨ ∃ v, s[j]? = some v ∧ ¬ v < x ∧ ¬ v = x) : s.take j ++ [x] ++ s.drop j = insU x s := by
  obtain ⟨e1, e2⟩ := split_at (p := fun y => decide (y < x)) (fun y hy => decide_eq_true (h y hy)) (by
    rcases h2 with h2 | ⟨v, hv, hn, _⟩
    · exact .inl h2
    · exact .inr ⟨v, hv, decide_eq_false hn⟩)
  have hx : x ∉ s := by
    intro hx
    rw [← List.take_append_drop j s, List.mem_append] at hx
    rcases hx with hx | hx
    · have := h x hx; omega
    · rcases h2 with h2 | ⟨v, hv, hn, hn2⟩
      · rw [List.drop_of_length_le h2] at hx; cases hx
      · have hj := (List.getElem?_eq_some_iff.1 hv).1
        have hd : s.drop j = v :: s.drop (j + 1) := by rw [List.drop_eq_getElem_cons hj, (List.getElem?_eq_some_iff.1 hv).2]
        rw [hd] at hx
        rcases List.mem_cons.1 hx with e | hx
        · exact hn2 e.symm
        · have hp : (s.drop j).Pairwise (· < ·) := List.Pairwise.sublist (List.drop_sublist _ _) hs
          rw [hd, List.pairwise_cons] at hp
          have := hp.1 x hx; omega
  unfold insU; rw [if_neg hx, e1, e2]
theorem set_bubble {s : List Int} {x : Int} {i : Nat} (hs : SortedU s) (hx : x ∉ s) (h : ∀ y ∈ s.drop i, x < y) (hi : i ≤ s.length) (h2 : i = 0 ∨ ∃ v, s[i - 1]? = some v ∧ ¬ x < v) : s.take i ++ [x] ++ s.drop i = insU x s := by
  refine set_at hs (fun y hy => ?_) ?_
  · rcases h2 with h2 | ⟨v, hv, hn⟩
    · subst h2; simp at hy
    · obtain ⟨m, hm⟩ := List.mem_iff_getElem?.1 hy
      have hm1 := (List.getElem?_eq_some_iff.1 hm).1
      rw [List.length_take] at hm1
      rw [List.getElem?_take_of_lt (by omega)] at hm
      have hy2 := (List.getElem?_eq_some_iff.1 hm).2
      have hv2 := (List.getElem?_eq_some_iff.1 hv).2
      have hyv : y ≤ v := by
        by_cases e : m = i - 1
        · subst e; rw [hy2] at hv2; omega
        · have := List.pairwise_iff_getElem.1 hs m (i - 1) (by omega) (by omega) (by omega)
          rw [hy2, hv2] at this; omega
      have : y ≠ x := fun e => hx (by rw [← e]; exact List.mem_of_getElem? hm)
      omega
  · by_cases hl : s.length ≤ i
    · exact .inl hl
    · right
      refine ⟨s[i], List.getElem?_eq_getElem (by omega), ?_⟩
      have := h s[i] (by rw [List.drop_eq_getElem_cons (by omega)]; exact List.mem_cons_self ..)
      exact ⟨by omega, by omega⟩
theorem bubble_step {s : List Int} {x v : Int} {i : Nat} (h0 : 0 < i) (hi : i ≤ s.length) (hv : s[i - 1]? = some v) : s.take (i - 1) ++ [x] ++ s.drop (i - 1) = ((s.take i ++ [x] ++ s.drop i).set i v).set (i - 1) x := by
  obtain ⟨m, rfl⟩ : ∃ m, i = m + 1 := ⟨i - 1, by omega⟩
  simp only [Nat.add_sub_cancel] at hv ⊢
  have hm := (List.getElem?_eq_some_iff.1 hv).1
  have e1 : s.take (m + 1) = s.take m ++ [v] := take_snoc hv
  have e2 : s.drop m = v :: s.drop (m + 1) := by rw [List.drop_eq_getElem_cons hm, (List.getElem?_eq_some_iff.1 hv).2]
  rw [e1, e2]
  have hl : (s.take m).length = m := by rw [List.length_take]; omega
  simp [List.set_append, hl]

theorem setI_take' {l : List Int} {k : Nat} {x : Int} (h : l[k]? = some x) : setI (l.take (k + 1)) = insU (l[k]?.getD 0) (setI (l.take k)) := by rw [setI_take h, h]; rfl
theorem bub_at {s : List Int} {x v : Int} {i : Nat} (hi : i ≤ s.length) (h : (s.take i ++ [x] ++ s.drop i)[i]? = some v) : v = x := by
  rw [List.append_assoc, List.getElem?_append_right (by rw [List.length_take]; omega), List.length_take, Nat.min_eq_left hi, Nat.sub_self] at h
  simpa using h.symm
theorem bub_left {s : List Int} {x v : Int} {i : Nat} (h0 : 0 < i) (hi : i ≤ s.length) (h : (s.take i ++ [x] ++ s.drop i)[i - 1]? = some v) : s[i - 1]? = some v := by
  rw [List.append_assoc, List.getElem?_append_left (by rw [List.length_take]; omega), List.getElem?_take_of_lt (by omega)] at h
  exact h
theorem drop_bub {s : List Int} {x v : Int} {i : Nat} (h : ∀ y ∈ s.drop i, x < y) (h0 : 0 < i) (hi : i ≤ s.length) (hv : s[i - 1]? = some v) (hlt : x < v) : ∀ y ∈ s.drop (i - 1), x < y := by
  obtain ⟨m, rfl⟩ : ∃ m, i = m + 1 := ⟨i - 1, by omega⟩
  simp only [Nat.add_sub_cancel] at hv ⊢
  have hm := (List.getElem?_eq_some_iff.1 hv).1
  rw [List.drop_eq_getElem_cons hm, (List.getElem?_eq_some_iff.1 hv).2]
  intro y hy
  rcases List.mem_cons.1 hy with rfl | hy
  · exact hlt
  · exact h y hy

instance (l : List Int) : Decidable (SortedI l) := inferInstanceAs (Decidable (l.Pairwise (· ≤ ·)))
theorem srtM_sorted (l : List Int) : SortedI (srtM l) := by
  have := List.pairwise_mergeSort (le := fun x y : Int => decide (x ≤ y)) (fun a b c h1 h2 => by simp at *; omega) (fun a b => by simp; omega) l
  exact List.Pairwise.imp (fun h => by simpa using h) this
theorem srtM_perm (l : List Int) : (srtM l).Perm l := List.mergeSort_perm ..
theorem keyL_le' (l : List Int) : (keyL l).length ≤ l.length :=
  foldl_inv addS (fun p s => s.length ≤ p.length) [] (Nat.le_refl _) (fun p x h => by
    generalize p.foldl addS [] = s at h ⊢
    unfold addS; split
    · simp; omega
    · simp; omega) _ l rfl
/-! ## crossing -/
theorem tk_snoc {α : Type} {l : List α} {k : Nat} {x : α} (h : l[k]? = some x) : l.take (k + 1) = l.take k ++ [x] := by rw [List.take_add_one, h]; rfl
theorem eqp_step {α : Type} {l m : List α} {k : Nat} {x y : α} (h : l.take k = m.take k) (hx : l[k]? = some x) (hy : m[k]? = some y) (e : x = y) : l.take (k + 1) = m.take (k + 1) := by rw [tk_snoc hx, tk_snoc hy, h, e]
theorem eqp_no {α : Type} {l m : List α} {k : Nat} {x y : α} (hx : l[k]? = some x) (hy : m[k]? = some y) (e : ¬ x = y) : ¬ l = m := fun h => by subst h; rw [hx] at hy; exact e (Option.some.inj hy)
def g0 (l : List Int) (i : Nat) : Int := (l[i]?).getD 0
def zi2 (m : Nat) (a b : List Int) : List (Int × Int) := (List.range m).map fun i => (g0 a i, g0 b i)
theorem g0_rng {l : List Int} (h : ∀ x ∈ l, -9223372036854775808 ≤ x ∧ x ≤ 9223372036854775807) (i : Nat) : -9223372036854775808 ≤ g0 l i ∧ g0 l i ≤ 9223372036854775807 := by
  unfold g0
  cases e : l[i]? with
  | none => simp
  | some x => exact h x (List.mem_of_getElem? e)
theorem zi2_mem {m k : Nat} {a b : List Int} {p : Int × Int} (h : (zi2 m a b)[k]? = some p) : p = (g0 a k, g0 b k) := by
  unfold zi2 at h; rw [List.getElem?_map] at h
  cases e : (List.range m)[k]? with
  | none => rw [e] at h; cases h
  | some i => rw [e] at h; have hk := List.getElem?_eq_some_iff.1 e; obtain ⟨h1, h2⟩ := hk; simp at h2; subst h2; simpa using h.symm
theorem zi2_rng {m k : Nat} {a b : List Int} {p : Int × Int} (h : ∀ x ∈ a, -9223372036854775808 ≤ x ∧ x ≤ 9223372036854775807) (hp : (zi2 m a b)[k]? = some p) : -9223372036854775808 ≤ p.1 ∧ p.1 ≤ 9223372036854775807 := by
  rw [zi2_mem hp]; exact g0_rng h _

def zb (f : Int → Int → Int) (m : Nat) (a b : List Int) (k : Nat) : List Int := (List.range m).map fun i => if i < k then f (g0 a i) (g0 b i) else 0
structure SlS where
  buf : List Int
  cnt : Nat
  skip : Nat
  out : List (List Int)
/-- the map that pairs make: the last one of a key counts -/
def mkE (L : List (Int × Int)) : List (Int × Int) := L.foldl (fun q p => putK q p.1 p.2) []
theorem mkE_nd (L : List (Int × Int)) : ((mkE L).map Prod.fst).Nodup := by
  unfold mkE
  generalize hq : ([] : List (Int × Int)) = q
  have hn : (q.map Prod.fst).Nodup := by subst hq; simp
  clear hq
  induction L generalizing q with
  | nil => exact hn
  | cons p L ih => exact ih _ (putK_nodup hn _ _)
/-- what a map is, told by ascending keys -/
def entE (L : List (Int × Int)) : List (Int × Int) := srtK Prod.fst (mkE L)
theorem putK_permE (k v : Int) : ∀ {q : List (Int × Int)}, (q.map Prod.fst).Nodup → (putK q k v).Perm (q.filter (fun p => decide (p.1 ≠ k)) ++ [(k, v)])
  | [], _ => by simp [putK]
  | a :: q, h => by
    obtain ⟨a1, a2⟩ := a
    rw [List.map_cons, List.nodup_cons] at h
    simp only [putK]
    by_cases e : a1 = k
    · rw [if_pos e, List.filter_cons_of_neg (by simpa using e)]
      have : q.filter (fun p => decide (p.1 ≠ k)) = q := List.filter_eq_self.2 fun p hp => by
        simp; intro e2; exact h.1 (List.mem_map.2 ⟨p, hp, e2.trans e.symm⟩)
      rw [this]; exact List.perm_append_comm (l₁ := [(k, v)])
    · rw [if_neg e, List.filter_cons_of_pos (by simpa using e)]
      exact (putK_permE k v h.2).cons _
def PF2U (P : Program) (fv : Value) (M : Hp) (f : Int → Int → Int × Int) : Prop := fv.oneCell' = true ∧ ∀ x i : Int, Pu P fv M [.int .i64 x, .int .i64 i] (fun r _ => r = .tuple #[.int .i64 (f x i).1, .int .i64 (f x i).2])
theorem PF2U.le {P : Program} {fv : Value} {M M' : Hp} {f : Int → Int → Int × Int} (h : PF2U P fv M f) (hM : Hp.le M M') : PF2U P fv M' f := ⟨h.1, fun x i => (h.2 x i).le hM⟩
def PF1U (P : Program) (fv : Value) (M : Hp) (f : Int → Int × Int) : Prop := fv.oneCell' = true ∧ ∀ x : Int, Pu P fv M [.int .i64 x] (fun r _ => r = .tuple #[.int .i64 (f x).1, .int .i64 (f x).2])
theorem PF1U.le {P : Program} {fv : Value} {M M' : Hp} {f : Int → Int × Int} (h : PF1U P fv M f) (hM : Hp.le M M') : PF1U P fv M' f := ⟨h.1, fun x => (h.2 x).le hM⟩
def PF2V (P : Program) (fv : Value) (M : Hp) (f : Int → Int → Int × Int × Bool) : Prop := fv.oneCell' = true ∧ ∀ x i : Int, Pu P fv M [.int .i64 x, .int .i64 i] (fun r _ => r = .tuple #[.int .i64 (f x i).1, .int .i64 (f x i).2.1, .bool (f x i).2.2])
theorem PF2V.le {P : Program} {fv : Value} {M M' : Hp} {f : Int → Int → Int × Int × Bool} (h : PF2V P fv M f) (hM : Hp.le M M') : PF2V P fv M' f := ⟨h.1, fun x i => (h.2 x i).le hM⟩
def RMp : Hp → List Value → List (Int × Int) → Prop := fun M cs q => ∃ v, cs = [v] ∧ RdM M v (encE (Value.int .i64) q)
theorem RdMp.at {M : Hp} {v : Value} {l : List (List (Int × Int))} {k : Nat} {e : List (Int × Int)} (h : RdS 1 RMp M v l) (he : l[k]? = some e) : ∃ p u, IdxPtr v k 1 p ∧ cellM M p = some u ∧ RdM M u (encE (Value.int .i64) e) := by
  obtain ⟨p, u, h1, h2, ⟨v, h3, h4⟩⟩ := h.at1 he
  cases h3; exact ⟨p, u, h1, h2, h4⟩
theorem RdPP.at {M : Hp} {v : Value} {l : List (List (Int × Int))} {k : Nat} {e : List (Int × Int)} (h : RdS 1 (RSl 2 RP2) M v l) (he : l[k]? = some e) : ∃ p u, IdxPtr v k 1 p ∧ cellM M p = some u ∧ RdS 2 RP2 M u e := by
  obtain ⟨p, u, h1, h2, ⟨v, h3, h4⟩⟩ := h.at1 he
  cases h3; exact ⟨p, u, h1, h2, h4⟩
/-- what a key is looked up as, the last one counting -/
def lkF (k : Int) (a : Option Int) (p : Int × Int) : Option Int := if p.1 = k then some p.2 else a
def lkE (L : List (Int × Int)) (k : Int) : Option Int := L.foldl (lkF k) none
theorem lkE_fold (k : Int) : ∀ (B : List (Int × Int)) (a : Option Int), B.foldl (lkF k) a = (lkE B k).or a
  | [], a => by simp [lkE]
  | p :: B, a => by
    unfold lkE
    rw [List.foldl_cons, List.foldl_cons, lkE_fold k B, lkE_fold k B (lkF k none p), Option.or_assoc]
    congr 1
    unfold lkF
    by_cases h : p.1 = k
    · rw [if_pos h, if_pos h]; rfl
    · rw [if_neg h, if_neg h]; rfl
theorem lkE_app (A B : List (Int × Int)) (k : Int) : lkE (A ++ B) k = (lkE B k).or (lkE A k) := by
  show (A ++ B).foldl (lkF k) none = _
  rw [List.foldl_append, lkE_fold]; rfl
theorem lkE_nil (k : Int) : lkE [] k = none := rfl
theorem lkE_one (p : Int × Int) (k : Int) : lkE [p] k = if p.1 = k then some p.2 else none := rfl
theorem lkE_cons (p : Int × Int) (B : List (Int × Int)) (k : Int) : lkE (p :: B) k = (lkE B k).or (if p.1 = k then some p.2 else none) := by
  show (p :: B).foldl (lkF k) none = _
  rw [List.foldl_cons, lkE_fold]; rfl
theorem lkE_none {k : Int} : ∀ {B : List (Int × Int)}, k ∉ B.map Prod.fst → lkE B k = none
  | [], _ => rfl
  | p :: B, h => by
    rw [List.map_cons, List.mem_cons, not_or] at h
    rw [lkE_cons, lkE_none h.2, if_neg (fun e => h.1 e.symm)]; rfl
theorem lkE_mem {k v : Int} : ∀ {B : List (Int × Int)}, lkE B k = some v → (k, v) ∈ B
  | [], h => by cases h
  | p :: B, h => by
    rw [lkE_cons] at h
    cases hb : lkE B k with
    | some u => rw [hb] at h; cases h; exact List.mem_cons_of_mem _ (lkE_mem hb)
    | none =>
      rw [hb] at h
      by_cases e : p.1 = k
      · rw [if_pos e] at h; cases h; subst e; exact List.mem_cons_self ..
      · rw [if_neg e] at h; cases h
theorem lkE_iff {k v : Int} : ∀ {B : List (Int × Int)}, (B.map Prod.fst).Nodup → (lkE B k = some v ↔ (k, v) ∈ B)
  | [], _ => ⟨fun h => (by cases h), fun h => (by cases h)⟩
  | p :: B, h => by
    refine ⟨lkE_mem, fun hm => ?_⟩
    rw [List.map_cons, List.nodup_cons] at h
    rw [lkE_cons]
    rcases List.mem_cons.1 hm with hm | hm
    · subst hm; rw [lkE_none h.1, if_pos rfl]; rfl
    · rw [(lkE_iff h.2).2 hm]; rfl
theorem perm_lk {A B : List (Int × Int)} (hA : (A.map Prod.fst).Nodup) (h : A.Perm B) : lkE A = lkE B := by
  have hB := (h.map Prod.fst).nodup_iff.1 hA
  funext k; refine Option.ext fun v => ?_
  show lkE A k = some v ↔ lkE B k = some v
  rw [lkE_iff hA, lkE_iff hB, h.mem_iff]
theorem lkE_filt {key : Int} {f : Int × Int → Bool} : ∀ {q : List (Int × Int)}, (∀ p ∈ q, p.1 = key → f p = true) → lkE (q.filter f) key = lkE q key
  | [], _ => rfl
  | p :: q, h => by
    have ih := lkE_filt (q := q) fun x hx => h x (List.mem_cons_of_mem _ hx)
    by_cases e : f p = true
    · rw [List.filter_cons_of_pos e, lkE_cons, lkE_cons, ih]
    · rw [List.filter_cons_of_neg e, lkE_cons, ih, if_neg (fun e2 => e (h p (List.mem_cons_self ..) e2)), Option.or_none]
theorem lkE_put {q : List (Int × Int)} (hq : (q.map Prod.fst).Nodup) (k v key : Int) : lkE (putK q k v) key = lkF key (lkE q key) (k, v) := by
  rw [perm_lk (putK_nodup hq k v) (putK_permE k v hq), lkE_app, lkE_one]
  unfold lkF
  by_cases e : k = key
  · subst e; simp
  · rw [if_neg e, if_neg e, Option.none_or, lkE_filt]
    intro p hp e2; simp; omega
/-- all of p put into q -/
def putA (q p : List (Int × Int)) : List (Int × Int) := p.foldl (fun q e => putK q e.1 e.2) q
theorem lkE_putA {q : List (Int × Int)} (p : List (Int × Int)) (hq : (q.map Prod.fst).Nodup) (key : Int) : lkE (putA q p) key = (lkE p key).or (lkE q key) := by
  have : ∀ (p q : List (Int × Int)), (q.map Prod.fst).Nodup → lkE (putA q p) key = p.foldl (lkF key) (lkE q key) := by
    intro p
    induction p with
    | nil => intro q _; rfl
    | cons e p ih =>
      intro q hq
      rw [List.foldl_cons, ← lkE_put hq]
      exact ih _ (putK_nodup hq _ _)
  rw [this p q hq, lkE_fold]
theorem lk_mkE (L : List (Int × Int)) : lkE (mkE L) = lkE L := by
  funext k
  have h := lkE_putA (q := []) L (by simp) k
  rw [lkE_nil, Option.or_none] at h
  exact h
theorem dec_t {p : Prop} [Decidable p] (h : p) : decide p = true := decide_eq_true h
theorem dec_f {p : Prop} [Decidable p] (h : p) : (!decide p) = false := by rw [decide_eq_true h]; rfl
theorem ent_p (L : List (Int × Int)) : (entE L).Perm (mkE L) := srtK_perm _ _
theorem ent_rng {l : List (Int × Int)} {Q : Int × Int → Prop} (h : ∀ x ∈ l, Q x) : ∀ x ∈ entE l, Q x := fun x hx => h x (by
  have hm : x ∈ mkE l := (ent_p l).subset hx
  have e : lkE (mkE l) x.1 = some x.2 := (lkE_iff (mkE_nd l)).2 hm
  rw [lk_mkE] at e; exact lkE_mem e)
/-- keys that were seen, and the first items of each -/
def uqF (f : Int → Int) (s : List Int × List Int) (x : Int) : List Int × List Int := if f x ∈ s.1 then s else (s.1 ++ [f x], s.2 ++ [x])
def uqS (f : Int → Int) (l : List Int) : List Int × List Int := l.foldl (uqF f) ([], [])
theorem uqS_app (f : Int → Int) (l : List Int) (x : Int) : uqS f (l ++ [x]) = uqF f (uqS f l) x := by simp [uqS]
theorem uqS_len (f : Int → Int) (l : List Int) : (uqS f l).2.length ≤ l.length ∧ (uqS f l).1.length ≤ l.length :=
  foldl_inv (uqF f) (fun p s => s.2.length ≤ p.length ∧ s.1.length ≤ p.length) ([], []) ⟨Nat.le_refl _, Nat.le_refl _⟩ (fun p x h => by
    generalize p.foldl (uqF f) ([], []) = s at h ⊢
    unfold uqF; split <;> simp <;> omega) _ l rfl
theorem uq1_in {f : Int → Int} {l : List Int} {k : Nat} {x : Int} (h : l[k]? = some x) (e : f x ∈ (uqS f (l.take k)).1) : uqS f (l.take (k + 1)) = uqS f (l.take k) := by rw [tk_snoc h, uqS_app]; exact if_pos e
theorem uq1_out {f : Int → Int} {l : List Int} {k : Nat} {x : Int} (h : l[k]? = some x) (e : f x ∉ (uqS f (l.take k)).1) : uqS f (l.take (k + 1)) = ((uqS f (l.take k)).1 ++ [f x], (uqS f (l.take k)).2 ++ [x]) := by rw [tk_snoc h, uqS_app]; exact if_neg e
theorem uq2_in {f : Int → Int} {l : List Int} {x : Int} (e : f x ∈ (uqS f l).1) : uqS f (l ++ [x]) = uqS f l := by rw [uqS_app]; exact if_pos e
theorem uq2_out {f : Int → Int} {l : List Int} {x : Int} (e : f x ∉ (uqS f l).1) : uqS f (l ++ [x]) = ((uqS f l).1 ++ [f x], (uqS f l).2 ++ [x]) := by rw [uqS_app]; exact if_neg e
theorem addS_new {s : List Int} {x : Int} (h : x ∉ s) : addS s x = s ++ [x] := if_neg h
theorem foldl_cg {β : Type} {F G : β → Int → β} : ∀ {l : List Int} {s : β}, (∀ x ∈ l, ∀ s, F s x = G s x) → l.foldl F s = l.foldl G s
  | [], _, _ => rfl
  | x :: l, s, h => by rw [List.foldl_cons, List.foldl_cons, h x (List.mem_cons_self ..)]; exact foldl_cg fun y hy => h y (List.mem_cons_of_mem _ hy)
theorem snocI {C : List Int → Prop} (h0 : C []) (h1 : ∀ p x, C p → C (p ++ [x])) : ∀ l, C l := by
  have : ∀ n (l : List Int), l.length = n → C l := by
    intro n
    induction n with
    | zero => intro l h; rw [List.eq_nil_of_length_eq_zero h]; exact h0
    | succ n ih =>
      intro l h
      have hne : l ≠ [] := by intro e; subst e; simp at h
      obtain ⟨A, x, rfl⟩ : ∃ A x, l = A ++ [x] := ⟨l.dropLast, l.getLast hne, (List.dropLast_concat_getLast hne).symm⟩
      exact h1 A x (ih A (by simpa using h))
  exact fun l => this _ l rfl
theorem uq_keys (f : Int → Int) (l : List Int) : (∀ k, k ∈ (uqS f l).1 ↔ k ∈ l.map f) ∧ (uqS f l).1 = (uqS f l).2.map f ∧ (uqS f l).1.Nodup := by
  refine snocI (C := fun l => (∀ k, k ∈ (uqS f l).1 ↔ k ∈ l.map f) ∧ (uqS f l).1 = (uqS f l).2.map f ∧ (uqS f l).1.Nodup) ⟨fun k => by simp [uqS], rfl, by simp [uqS]⟩ (fun p x h => ?_) l
  obtain ⟨h1, h2, h3⟩ := h
  by_cases c : f x ∈ (uqS f p).1
  · rw [uq2_in c]
    refine ⟨fun k => ?_, h2, h3⟩
    rw [h1, List.map_append, List.mem_append]
    constructor
    · exact .inl
    · rintro (h | h)
      · exact h
      · simp at h; rw [h, ← h1]; exact c
  · rw [uq2_out c]
    refine ⟨fun k => ?_, by rw [List.map_append, h2]; rfl, List.nodup_append.2 ⟨h3, by simp, fun a ha b hb => by simp at hb; subst hb; intro e; subst e; exact c ha⟩⟩
    rw [List.map_append, List.mem_append, List.mem_append, h1]; rfl
theorem k0_id {l : List Int} (h : ∀ x ∈ l, -9223372036854775808 ≤ x ∧ x ≤ 9223372036854775807) : ∀ x ∈ l, (fun x => keyAt 0 0 x 0) x = (fun x => x) x := fun x hx => by
  show keyAt 0 0 x 0 = x
  simp only [keyAt, if_true, Int.add_zero]; exact w64_in (h x hx)
theorem srt_setB {q L : List Int} (hn : q.Nodup) (h : ∀ z, z ∈ q ↔ z ∈ L) : srtM q = setI L := by
  have hs := setI_spec L
  exact sorted_eq (srtM_sorted q) hs.1.le ((srtM_perm q).trans ((List.perm_ext_iff_of_nodup hn hs.1.nodup).2 fun z => by rw [h, hs.2.1]))
theorem srtM_key (l : List Int) : srtM (keyL l) = setI l := srt_setB (keyL_nodup l) fun z => mem_keyL
theorem sortI_key (l : List Int) : sortI (keyL l) = setI l := by
  rw [← srtM_key]; exact sorted_eq (sortI_sorted _) (srtM_sorted _) ((sortI_perm _).trans (srtM_perm _).symm)
theorem fi_firstB : ∀ {l : List Int} {k : Nat} {x : Int}, l[k]? = some x → (fiI (eqx x) l = (k : Int) ↔ x ∉ l.take k)
  | [], k, x, h => by simp at h
  | a :: l, 0, x, h => by
    have e : a = x := by simpa using h
    rw [fiI_cons]; simp [eqx, e]
  | a :: l, k + 1, x, h => by
    have ih := fi_firstB (l := l) (k := k) (x := x) (by simpa using h)
    rw [fiI_cons, List.take_succ_cons, List.mem_cons, not_or]
    by_cases e : a = x
    · have e1 : eqx x a = true := decide_eq_true e
      rw [if_pos e1]
      constructor
      · intro h2; exfalso; omega
      · intro h2; exact absurd e.symm h2.1
    · have e1 : ¬ eqx x a = true := by simp [eqx, e]
      rw [if_neg e1, ← ih]
      constructor
      · intro h2; refine ⟨fun h3 => e h3.symm, ?_⟩; split at h2 <;> omega
      · intro h2; split <;> omega
theorem ky_new {l : List Int} {k : Nat} {x : Int} (h : l[k]? = some x) (e : fiI (eqx x) l = (k : Int)) : keyL (l.take (k + 1)) = keyL (l.take k) ++ [x] := by
  rw [keyL_succ h, addS_new (by rw [mem_keyL]; exact (fi_firstB h).1 e)]
theorem ky_old {l : List Int} {k : Nat} {x : Int} (h : l[k]? = some x) (e : ¬ fiI (eqx x) l = (k : Int)) : keyL (l.take (k + 1)) = keyL (l.take k) := by
  rw [keyL_succ h]; exact if_pos (by rw [mem_keyL]; exact Decidable.not_not.1 fun h3 => e ((fi_firstB h).2 h3))
def PFAB (P : Program) (fv : Value) (M : Hp) (f : Int × Int → Bool) : Prop := fv.oneCell' = true ∧ ∀ x y : Int, ((-9223372036854775808 ≤ x ∧ x ≤ 9223372036854775807) ∧ (-9223372036854775808 ≤ y ∧ y ≤ 9223372036854775807)) → Pu P fv M [.agg #[.int .i64 x, .int .i64 y]] (fun r _ => r = .bool (f (x, y)))
theorem PFAB.le {P : Program} {fv : Value} {M M' : Hp} {f : Int × Int → Bool} (h : PFAB P fv M f) (hM : Hp.le M M') : PFAB P fv M' f := ⟨h.1, fun x y g => (h.2 x y g).le hM⟩
def RA2 : Hp → List Value → List (Int × Int) × List (Int × Int) → Prop := fun M cs x => ∃ u v, cs = [u, v] ∧ RdS 2 RP2 M u x.1 ∧ RdS 2 RP2 M v x.2
theorem RdA2.at {M : Hp} {v : Value} {l : List (List (Int × Int) × List (Int × Int))} {k : Nat} {e : List (Int × Int) × List (Int × Int)} (h : RdS 2 RA2 M v l) (he : l[k]? = some e) : ∃ p u1 u2, IdxPtr v k 2 p ∧ cellsM M p [u1, u2] ∧ RdS 2 RP2 M u1 e.1 ∧ RdS 2 RP2 M u2 e.2 := by
  obtain ⟨p, cs, h1, h2, ⟨u1, u2, h3, h5, h6⟩, h4⟩ := RdS.at h he
  subst h3; exact ⟨p, u1, u2, h1, h4, h5, h6⟩
theorem sat_app : ∀ {A H : List HProp} {h : Hq}, sat (A ++ H) h ↔ ∃ g1 g2, Hp.disj g1 g2 ∧ h = Hp.union g1 g2 ∧ sat A g1 ∧ sat H g2
  | [], H, h => ⟨fun s => ⟨Hp.emp, h, (Hp.disj_emp h).symm, (Hp.emp_union h).symm, rfl, s⟩, fun ⟨g1, g2, d, e, h1, h2⟩ => by
    have : g1 = Hp.emp := h1
    subst this; rw [Hp.emp_union] at e; subst e; exact h2⟩
  | p :: A, H, h => by
    constructor
    · rintro ⟨g1, g2, d, e, hp, hs⟩
      obtain ⟨g3, g4, d', e', h3, h4⟩ := sat_app.1 hs
      subst e'; subst e
      have ⟨d1, d2⟩ := Hp.disj_union_right.1 d
      exact ⟨Hp.union g1 g3, g4, Hp.disj_union_left.2 ⟨d2, d'⟩, (Hp.union_assoc ..).symm, ⟨g1, g3, d1, rfl, hp, h3⟩, h4⟩
    · rintro ⟨g1, g2, d, e, ⟨g3, g4, d', e', hp, h4⟩, hs⟩
      subst e'; subst e
      have ⟨d1, d2⟩ := Hp.disj_union_left.1 d
      exact ⟨g3, Hp.union g4 g2, Hp.disj_union_right.2 ⟨d', d1⟩, Hp.union_assoc .., hp, sat_app.2 ⟨g4, g2, d2, rfl, h4, hs⟩⟩
def grp (A : List HProp) : HProp := fun h => sat A h
theorem ungrp {w : World} {M : Hp} {A H : List HProp} (s : St w M (grp A :: H)) : St w M (A ++ H) := s.of_sat fun _ ⟨g1, g2, d, e, h1, h2⟩ => sat_app.2 ⟨g1, g2, d, e, h1, h2⟩
theorem regrp {w : World} {M : Hp} {A H : List HProp} (s : St w M (A ++ H)) : St w M (grp A :: H) := s.of_sat fun _ h => let ⟨g1, g2, d, e, h1, h2⟩ := sat_app.1 h; ⟨g1, g2, d, e, h1, h2⟩
abbrev MLE := List (Int × Value × List Int)
def entO (e : TypeId) (u : Value × List Int) : HProp := OwnI e u.1 u.2
/-- a map of lists, with the lists -/
def OwnML (e : TypeId) (b : Nat) (q : List (Int × List Int)) : HProp := fun h => ∃ t : MLE, t.map (fun x => (x.1, x.2.2)) = q ∧ grp (OwnM b (encE Prod.fst t) :: t.map fun x => entO e x.2) h
theorem openML {w : World} {M : Hp} {H : List HProp} {e : TypeId} {b : Nat} {q : List (Int × List Int)} (s : St w M (OwnML e b q :: H)) : ∃ t : MLE, t.map (fun x => (x.1, x.2.2)) = q ∧ St w M (OwnM b (encE Prod.fst t) :: ((t.map fun x => entO e x.2) ++ H)) := by
  obtain ⟨t, s⟩ := St.ex (P := fun t h => t.map (fun x : Int × Value × List Int => (x.1, x.2.2)) = q ∧ grp (OwnM b (encE Prod.fst t) :: t.map fun x => entO e x.2) h) s
  obtain ⟨h, s⟩ := St.pure_ s
  exact ⟨t, h, ungrp s⟩
theorem closeML {w : World} {M : Hp} {H : List HProp} {e : TypeId} {b : Nat} {t : MLE} (s : St w M (OwnM b (encE Prod.fst t) :: ((t.map fun x => entO e x.2) ++ H))) : St w M (OwnML e b (t.map fun x => (x.1, x.2.2)) :: H) :=
  (regrp (A := OwnM b (encE Prod.fst t) :: t.map fun x => entO e x.2) s).imp fun _ h => ⟨t, rfl, h⟩
/-- the entry of a key, and the others -/
theorem putK_own (own : Value × List Int → HProp) (z : Value × List Int) (k : Int) : ∀ t : MLE, ∃ rest : List HProp, (∀ u, ((putK t k u).map fun x => own x.2).Perm (own u :: rest)) ∧ (k ∈ t.map Prod.fst → (t.map fun x => own x.2).Perm (own (getK z t k) :: rest)) ∧ (k ∉ t.map Prod.fst → (t.map fun x => own x.2) = rest)
  | [] => ⟨[], fun u => List.Perm.refl _, (fun h => absurd h (by simp)), fun _ => rfl⟩
  | a :: t => by
    obtain ⟨a1, a2⟩ := a
    by_cases e : a1 = k
    · subst e
      exact ⟨t.map fun x => own x.2, fun u => by simp only [putK, if_true]; exact List.Perm.refl _, fun _ => by simp only [getK, if_true]; exact List.Perm.refl _, fun h => absurd (by simp) h⟩
    · obtain ⟨rest, h1, h2, h3⟩ := putK_own own z k t
      refine ⟨own a2 :: rest, fun u => ?_, fun h => ?_, fun h => ?_⟩
      · simp only [putK, if_neg e, List.map_cons]; exact ((h1 u).cons _).trans (List.Perm.swap ..)
      · rw [List.map_cons, List.mem_cons] at h
        have hk : k ∈ t.map Prod.fst := h.elim (fun h => absurd h.symm e) id
        simp only [getK, if_neg e, List.map_cons]; exact ((h2 hk).cons _).trans (List.Perm.swap ..)
      · rw [List.map_cons, List.mem_cons, not_or] at h
        rw [List.map_cons, h3 h.2]
def nilL : Value × List Int := (.slice none 0 0, [])
/-- the entry of a key taken out (an empty one where the key is new) -/
theorem takeML {w : World} {M : Hp} {H : List HProp} {e : TypeId} {b : Nat} {t : MLE} (k : Int) (s : St w M (OwnM b (encE Prod.fst t) :: ((t.map fun x => entO e x.2) ++ H))) :
    ∃ rest : List HProp, (∀ u, ((putK t k u).map fun x => entO e x.2).Perm (entO e u :: rest)) ∧ St w M (entO e (getK nilL t k) :: OwnM b (encE Prod.fst t) :: (rest ++ H)) := by
  obtain ⟨rest, h1, h2, h3⟩ := putK_own (entO e) nilL k t
  refine ⟨rest, h1, ?_⟩
  by_cases hk : k ∈ t.map Prod.fst
  · refine s.perm ?_
    refine (((h2 hk).append_right H).cons _).trans ?_
    exact List.Perm.swap ..
  · rw [h3 hk] at s
    have e0 : getK nilL t k = nilL := getK_no hk
    rw [e0]
    exact (s.ownNil (e := e) (sz := 1)).made0
theorem putML {w : World} {M : Hp} {H rest : List HProp} {e : TypeId} {b : Nat} {t : MLE} {k : Int} {u : Value × List Int} (hr : ∀ u, ((putK t k u).map fun x => entO e x.2).Perm (entO e u :: rest)) (s : St w M (OwnM b (encE Prod.fst (putK t k u)) :: entO e u :: (rest ++ H))) :
    St w M (OwnM b (encE Prod.fst (putK t k u)) :: (((putK t k u).map fun x => entO e x.2) ++ H)) :=
  s.perm ((((hr u).append_right H).symm).cons _)
/-- all lists frozen -/
theorem freezeML {w : World} {e : TypeId} : ∀ {t : MLE} {M : Hp} {H : List HProp}, (∀ x ∈ t, x.2.2.length ≤ 1000000000000) → St w M ((t.map fun x => entO e x.2) ++ H) → ∃ M', Hp.le M M' ∧ (∀ x ∈ t, RdI M' x.2.1 x.2.2) ∧ St w M' H
  | [], M, H, _, s => ⟨M, Hp.le.refl _, fun x hx => (by cases hx), s⟩
  | a :: t, M, H, hb, s => by
    have s1 : St w M (OwnI e a.2.1 a.2.2 :: ((t.map fun x => entO e x.2) ++ H)) := s
    obtain ⟨M1, h1, r1, s2⟩ := s1.freezeI (by have := hb a (List.mem_cons_self ..); omega)
    obtain ⟨M2, h2, r2, s3⟩ := freezeML (t := t) (fun x hx => hb x (List.mem_cons_of_mem _ hx)) s2
    refine ⟨M2, h1.trans h2, fun x hx => ?_, s3⟩
    rcases List.mem_cons.1 hx with hx | hx
    · subst hx; exact r1.le h2
    · exact r2 x hx
/-- a key with a frozen list -/
def RG2 : Hp → List Value → Int × List Int → Prop := fun M cs x => ∃ v, cs = [.int .i64 x.1, v] ∧ RdI M v x.2
theorem RG2_mono : RMono RG2 := fun _ _ _ _ hM ⟨v, e, h⟩ => ⟨v, e, h.le hM⟩
theorem one_RG2 : ROne RG2 := by
  rintro M cs x ⟨v, rfl, h⟩ u hu
  simp only [List.mem_cons, List.not_mem_nil, or_false] at hu
  rcases hu with rfl | rfl
  · rfl
  · exact RdI.one h
theorem RG2_K {M : Hp} {cs : List Value} {x : Int × List Int} (h : RG2 M cs x) : ∃ u : Cell1, cs = encK (Prod.fst x, u) := by
  obtain ⟨v, e, h⟩ := h; exact ⟨⟨v, RdI.one h⟩, e⟩
theorem RdG2.at {M : Hp} {v : Value} {l : List (Int × List Int)} {k : Nat} {e : Int × List Int} (h : RdS 2 RG2 M v l) (he : l[k]? = some e) : ∃ p u, IdxPtr v k 2 p ∧ cellsM M p [.int .i64 e.1, u] ∧ RdI M u e.2 := by
  obtain ⟨p, cs, h1, h2, ⟨u, h3, h5⟩, h4⟩ := RdS.at h he
  subst h3; exact ⟨p, u, h1, h4, h5⟩
theorem St.under2 {w : World} {M : Hp} {p q : HProp} {H H' : List HProp} (s : St w M (p :: q :: H)) (f : ∀ h, sat H h → sat H' h) : St w M (p :: q :: H') := s.of_sat fun _ h => sat_cons_of (fun _ => sat_cons_of f) h
/-- a lookup's opening: the entry in front, then the map, then the other lists as one chunk; q is what the map holds -/
theorem lookML {w : World} {M : Hp} {H : List HProp} {e : TypeId} {b : Nat} {q : List (Int × List Int)} (k : Int) (s : St w M (OwnML e b q :: H)) :
    ∃ (t : MLE) (rest : List HProp) (v : Value), v = (getK nilL t k).1 ∧ t.map (fun x => (x.1, x.2.2)) = q ∧ (∀ u, ((putK t k u).map fun x => entO e x.2).Perm (entO e u :: rest)) ∧ St w M (OwnM b (encE Prod.fst t) :: OwnI e v (getK [] q k) :: grp rest :: H) := by
  obtain ⟨t, ht, s⟩ := openML s
  obtain ⟨rest, hr, s⟩ := takeML k s
  refine ⟨t, rest, _, rfl, ht, hr, ?_⟩
  have e1 : getK [] q k = (getK nilL t k).2 := by rw [← ht]; exact getK_map (fun u : Value × List Int => u.2) nilL t k
  rw [e1]
  have s2 : St w M (entO e (getK nilL t k) :: OwnM b (encE Prod.fst t) :: grp rest :: H) := St.under2 s fun h hh => let ⟨g1, g2, d, e, h1, h2⟩ := sat_app.1 hh; ⟨g1, g2, d, e, h1, h2⟩
  exact s2.swap
/-- an update's closing -/
theorem updML {w : World} {M : Hp} {H rest : List HProp} {e : TypeId} {b : Nat} {t : MLE} {q : List (Int × List Int)} {k : Int} {v : Value} {l : List Int} (ht : t.map (fun x => (x.1, x.2.2)) = q) (hr : ∀ u, ((putK t k u).map fun x => entO e x.2).Perm (entO e u :: rest))
    (s : St w M (OwnM b (encE Prod.fst (putK t k (v, l))) :: OwnI e v l :: grp rest :: H)) : St w M (OwnML e b (putK q k l) :: H) := by
  have s1 : St w M (OwnM b (encE Prod.fst (putK t k (v, l))) :: entO e (v, l) :: (rest ++ H)) := St.under2 s fun h hh => let ⟨g1, g2, d, e, h1, h2⟩ := hh; sat_app.2 ⟨g1, g2, d, e, h1, h2⟩
  have s2 := closeML (putML hr s1)
  have e1 : (putK t k (v, l)).map (fun x => (x.1, x.2.2)) = putK q k l := by rw [← ht]; exact (putK_map (fun u : Value × List Int => u.2) t k (v, l)).symm
  rw [e1] at s2; exact s2
theorem newML {w : World} {M : Hp} {H : List HProp} {e : TypeId} {b : Nat} (s : St w M (OwnM b [] :: H)) : St w M (OwnML e b [] :: H) := closeML (t := []) s
/-- the map and its lists frozen -/
theorem frzML {w : World} {M : Hp} {H : List HProp} {e : TypeId} {b : Nat} {q : List (Int × List Int)} (s : St w M (OwnML e b q :: H)) (hb : ∀ x ∈ q, x.2.length ≤ 1000000000000) :
    ∃ (M' : Hp) (t : MLE), Hp.le M M' ∧ t.map (fun x => (x.1, x.2.2)) = q ∧ RdM M' (.map (some b)) (encE Prod.fst t) ∧ (∀ x ∈ t, RdI M' x.2.1 x.2.2) ∧ St w M' H := by
  obtain ⟨t, ht, s⟩ := openML s
  obtain ⟨M1, h1, hm, s⟩ := s.freezeM
  obtain ⟨M2, h2, hl, s⟩ := freezeML (t := t) (fun x hx => hb (x.1, x.2.2) (by rw [← ht]; exact List.mem_map.2 ⟨x, hx, rfl⟩)) s
  exact ⟨M2, t, h1.trans h2, ht, hm.le h2, hl, s⟩
/-- a frozen map of frozen lists -/
def RdML (M : Hp) (v : Value) (q : List (Int × List Int)) : Prop := ∃ t : MLE, t.map (fun x => (x.1, x.2.2)) = q ∧ RdM M v (encE Prod.fst t) ∧ ∀ x ∈ t, RdI M x.2.1 x.2.2
theorem RdML.le {M M' : Hp} {v : Value} {q : List (Int × List Int)} (h : RdML M v q) (hM : Hp.le M M') : RdML M' v q := by
  obtain ⟨t, h1, h2, h3⟩ := h; exact ⟨t, h1, h2.le hM, fun x hx => (h3 x hx).le hM⟩
theorem RdML.one' {M : Hp} {v : Value} {q : List (Int × List Int)} (h : RdML M v q) : v.oneCell' = true := by obtain ⟨_, _, h, _⟩ := h; exact h.one'
theorem RdML.nodup {M : Hp} {v : Value} {q : List (Int × List Int)} (h : RdML M v q) : (q.map Prod.fst).Nodup := by
  obtain ⟨t, h1, h2, _⟩ := h
  have := h2.nodup
  rw [keys_encE] at this
  rw [← h1, List.map_map]; exact this
theorem frzML2 {w : World} {M : Hp} {H : List HProp} {e : TypeId} {b : Nat} {q : List (Int × List Int)} (s : St w M (OwnML e b q :: H)) (hb : ∀ x ∈ q, x.2.length ≤ 1000000000000) :
    ∃ M' : Hp, Hp.le M M' ∧ RdML M' (.map (some b)) q ∧ St w M' H := by
  obtain ⟨M', t, h1, h2, h3, h4, s⟩ := frzML s hb
  exact ⟨M', h1, ⟨t, h2, h3, h4⟩, s⟩
theorem reML {w : World} {M : Hp} {H : List HProp} {e : TypeId} {b : Nat} {q q' : List (Int × List Int)} (s : St w M (OwnML e b q :: H)) (h : q = q') : St w M (OwnML e b q' :: H) := h ▸ s
theorem srtKG_eq {β : Type} {a b : List (Int × β)} (hb : (b.map Prod.fst).Nodup) (h : a.Perm b) : srtK Prod.fst a = srtK Prod.fst b :=
  sortedK_uniq hb ((srtK_perm _ a).trans h) (srtK_perm _ b) (srtK_sorted _ a) (srtK_sorted _ b)
theorem snocNG {β : Type} {p : List (Int × β)} {k : Int} {u : β} (h : (p.map Prod.fst).Nodup) (hk : k ∉ p.map Prod.fst) : ((p ++ [(k, u)]).map Prod.fst).Nodup := by
  rw [List.map_append]
  exact List.nodup_append.2 ⟨h, by simp, fun a ha b hb => by simp at hb; subst hb; intro e; subst e; exact hk ha⟩
theorem snocSG {β : Type} {p m : List (Int × β)} {k : Int} {u : β} (h : ∀ z ∈ p, z ∈ m) (hk : (k, u) ∈ m) : ∀ z ∈ p ++ [(k, u)], z ∈ m := by
  intro z hz; rcases List.mem_append.1 hz with e | e
  · exact h z e
  · simp at e; rw [e]; exact hk
abbrev vis (t : MLE) : List (Int × List Int) := t.map fun x => (x.1, x.2.2)
theorem vis_app (t : MLE) (k : Int) (u : Value × List Int) : vis (t ++ [(k, u)]) = vis t ++ [(k, u.2)] := by simp [vis]
theorem vis_keys (t : MLE) : (vis t).map Prod.fst = t.map Prod.fst := by simp [vis, List.map_map, Function.comp_def]
/-- what each key has, in the order of the keys' first items -/
def grpE (f : Int → Int × Int) (l : List Int) : List (Int × List Int) := l.foldl (fun q x => putK q (f x).1 (getK [] q (f x).1 ++ [(f x).2])) []
theorem grpE_app (f : Int → Int × Int) (l : List Int) (x : Int) : grpE f (l ++ [x]) = putK (grpE f l) (f x).1 (getK [] (grpE f l) (f x).1 ++ [(f x).2]) := by simp [grpE]
theorem grpE_step {f : Int → Int × Int} {l : List Int} {k : Nat} {x : Int} (h : l[k]? = some x) : putK (grpE f (l.take k)) (f x).1 (getK [] (grpE f (l.take k)) (f x).1 ++ [(f x).2]) = grpE f (l.take (k + 1)) := by rw [take_snoc h, grpE_app]
/-- what a key has -/
def grpO (f : Int → Int × Int) (key : Int) (l : List Int) : List Int := (l.filter fun x => decide ((f x).1 = key)).map fun x => (f x).2
theorem grpO_app (f : Int → Int × Int) (key : Int) (l : List Int) (x : Int) : grpO f key (l ++ [x]) = grpO f key l ++ (if (f x).1 = key then [(f x).2] else []) := by
  unfold grpO; rw [List.filter_append, List.map_append]; congr 1
  by_cases h : (f x).1 = key
  · simp [h]
  · simp [h]
theorem grpO_yes {f : Int → Int × Int} {l : List Int} {k : Nat} {x key : Int} (h : l[k]? = some x) (e : (f x).1 = key) : grpO f key (l.take k) ++ [(f x).2] = grpO f key (l.take (k + 1)) := by rw [take_snoc h, grpO_app, if_pos e]
theorem grpO_no {f : Int → Int × Int} {l : List Int} {k : Nat} {x key : Int} (h : l[k]? = some x) (e : ¬ (f x).1 = key) : grpO f key (l.take k) = grpO f key (l.take (k + 1)) := by rw [take_snoc h, grpO_app, if_neg e, List.append_nil]
theorem grpO_len (f : Int → Int × Int) (key : Int) (l : List Int) : (grpO f key l).length ≤ l.length := by
  unfold grpO; rw [List.length_map]; exact List.length_filter_le ..
theorem getKL_put (q : List (Int × List Int)) (k : Int) (v : List Int) (key : Int) : getK [] (putK q k v) key = if k = key then v else getK [] q key := by
  induction q with
  | nil => simp only [putK, getK]
  | cons a q ih =>
    obtain ⟨a1, a2⟩ := a
    simp only [putK]
    by_cases h : a1 = k
    · subst h; simp only [if_true, getK]
      by_cases h2 : a1 = key <;> simp [h2]
    · rw [if_neg h]; simp only [getK]
      by_cases h2 : a1 = key
      · rw [if_pos h2]; subst h2; rw [if_neg (fun e => h e.symm), if_pos rfl]
      · rw [if_neg h2, ih, if_neg h2]
theorem snoc_ind {P : List Int → Prop} (h0 : P []) (h1 : ∀ l x, P l → P (l ++ [x])) (l : List Int) : P l := by
  have : ∀ n (l : List Int), l.length = n → P l := by
    intro n
    induction n with
    | zero => intro l h; rw [List.eq_nil_of_length_eq_zero h]; exact h0
    | succ n ih =>
      intro l h
      have hne : l ≠ [] := by intro e; subst e; simp at h
      rw [(List.dropLast_concat_getLast hne).symm]
      exact h1 _ _ (ih _ (by simp [h]))
  exact this _ l rfl
theorem getK_grpE (f : Int → Int × Int) (key : Int) (l : List Int) : getK [] (grpE f l) key = grpO f key l := by
  induction l using snoc_ind with
  | h0 => rfl
  | h1 l x ih =>
    rw [grpE_app, getKL_put, grpO_app]
    by_cases h : (f x).1 = key
    · rw [if_pos h, if_pos h, h, ih]
    · rw [if_neg h, if_neg h, ih, List.append_nil]
theorem grpE_nd (f : Int → Int × Int) (l : List Int) : ((grpE f l).map Prod.fst).Nodup := by
  induction l using snoc_ind with
  | h0 => simp [grpE]
  | h1 l x ih => rw [grpE_app]; exact putK_nodup ih _ _
theorem grpE_mem (f : Int → Int × Int) (key : Int) (l : List Int) : key ∈ (grpE f l).map Prod.fst ↔ key ∈ l.map fun x => (f x).1 := by
  induction l using snoc_ind with
  | h0 => simp [grpE]
  | h1 l x ih =>
    rw [grpE_app, putK_keys, List.map_append, List.mem_append, ← ih, List.map_singleton, List.mem_singleton]
    by_cases h : (f x).1 ∈ (grpE f l).map Prod.fst
    · rw [if_pos h]; exact ⟨.inl, fun h1 => h1.elim id fun e => e ▸ h⟩
    · rw [if_neg h, List.mem_append, List.mem_singleton]
theorem keysG_get {q : List (Int × List Int)} (h : (q.map Prod.fst).Nodup) : (q.map Prod.fst).map (fun key => (key, getK [] q key)) = q := by
  induction q with
  | nil => rfl
  | cons a q ih =>
    obtain ⟨a1, a2⟩ := a
    rw [List.map_cons, List.nodup_cons] at h
    simp only [List.map_cons, getK, if_true]
    congr 1
    refine (List.map_congr_left fun key hk => ?_).trans (ih h.2)
    have hne : ¬ a1 = key := fun e => h.1 (e ▸ hk)
    simp only [if_neg hne]
theorem grpE_val {f : Int → Int × Int} {l : List Int} {e : Int × List Int} (h : e ∈ grpE f l) : e.2 = grpO f e.1 l := by
  rw [← keysG_get (grpE_nd f l)] at h
  obtain ⟨key, _, rfl⟩ := List.mem_map.1 h
  exact getK_grpE f key l
theorem grpE_elen {f : Int → Int × Int} {l : List Int} : ∀ e ∈ grpE f l, e.2.length ≤ l.length := fun e h => by rw [grpE_val h]; exact grpO_len ..
theorem grpE_glen (f : Int → Int × Int) (key : Int) (l : List Int) : (getK [] (grpE f l) key).length ≤ l.length := by rw [getK_grpE]; exact grpO_len ..
theorem putKG_le {β : Type} (q : List (Int × β)) (k : Int) (v : β) : (putK q k v).length ≤ q.length + 1 := by
  have h := congrArg List.length (putK_keys q k v)
  rw [List.length_map] at h
  rw [h]; split <;> simp
theorem grpE_len (f : Int → Int × Int) (l : List Int) : (grpE f l).length ≤ l.length := by
  induction l using snoc_ind with
  | h0 => simp [grpE]
  | h1 l x ih => rw [grpE_app, List.length_append]; have := putKG_le (grpE f l) (f x).1 (getK [] (grpE f l) (f x).1 ++ [(f x).2]); simp; omega
/-- the groups by ascending keys -/
def grpS (f : Int → Int × Int) (l : List Int) : List (Int × List Int) := srtK Prod.fst (grpE f l)
theorem grpS_keys (f : Int → Int × Int) (l : List Int) : (setI (l.map fun x => (f x).1)).map (fun key => (key, grpO f key l)) = grpS f l := by
  have hs := setI_spec (l.map fun x => (f x).1)
  have hnd : (setI (l.map fun x => (f x).1)).Nodup := hs.1.imp fun h => by omega
  have hp : (setI (l.map fun x => (f x).1)).Perm ((grpE f l).map Prod.fst) := (List.perm_ext_iff_of_nodup hnd (grpE_nd f l)).2 fun k => by rw [hs.2.1, grpE_mem]
  have e1 : (fun key => (key, grpO f key l)) = fun key => (key, getK [] (grpE f l) key) := funext fun key => by rw [getK_grpE]
  rw [e1]
  refine sortedK_uniq (grpE_nd f l) ?_ (srtK_perm _ _) ?_ (srtK_sorted _ _)
  · have := hp.map fun key => (key, getK [] (grpE f l) key)
    rwa [keysG_get (grpE_nd f l)] at this
  · rw [List.pairwise_map]
    exact hs.1.imp fun h => by show _ ≤ _; simp only; omega
theorem mpG_snoc {SK : List Int} {j : Nat} {x : Int} {g : Int → Int × List Int} {v : Int × List Int} (h : SK[j]? = some x) (hv : g x = v) : (SK.take j).map g ++ [v] = (SK.take (j + 1)).map g := by rw [tk_snoc h, List.map_append, List.map_singleton, hv]
section
variable {r : Option Nat} {P : Program} {Q : Exit → Act → World → Prop} {a : Act} {w : World}
  {n : Nat} {ds : List Deferred} {l : List (Nat × Value)} {ty t : TypeId} {pos : String} {af : Array Edge} {gd : Option (Nat × Bool)} {x y : Operand}
  {next : Act → World → Prop} {M : Hp} {H : List HProp}
/-- a field of a struct's block -/
theorem cell_blkf {b f : Nat} {cs : Array Value} {v : Value} {e : TypeId} {fr : Nat × Nat} (S : w.heap[b]? = some (.cells cs e fr)) (hv : cs[f]? = some v) : w.cell? ⟨b, f, none⟩ = some v := by simp [World.cell?, S, hv]
/-- a field of an owned struct's block is stored -/
theorem X_storeB {b f : Nat} {cs : Array Value} {u : Value} {e : TypeId} (E : Env a n ds l) (S : St w M (blk b (.cells cs e) :: H)) (hx : opv l x = some (.pointer (some ⟨b, f, none⟩))) (hy : opv l y = some u)
    (hs : (sizeOf t).run P w = .ok 1 w) (h1 : u.oneCell' = true) (hf : Nat.blt f cs.size = true)
    (kk : ∀ a w', Env a n ds l → St w' M (blk b (.cells (cs.setIfInBounds f u) e) :: H) → next a w') : (⟨none, .store t x y, ty, pos, af, gd⟩ : Oper).wpIn (Fw r) 0 P a w next Q := by
  have hg := S.get
  have hf : f < cs.size := by simpa using hf
  have hc : w.cell? ⟨b, f, none⟩ = some cs[f] := by simp [World.cell?, hg, hf]
  have hfz : w.frozen? ⟨b, f, none⟩ = false := by simp [World.frozen?, hg]
  have hcells : u.cells = #[u] := by cases u <;> first | rfl | (simp [Value.oneCell'] at h1)
  refine X_skip (w' := w.setCell ⟨b, f, none⟩ u) E rfl ?_ fun a E => kk a _ E ?_
  · simp [execOp, E.eval hx, E.eval hy, Instr.storeAt, Instr.sureAddr, storeVar, hs, hcells, storeCells, run_store P _ _ _ _ h1, Addr.add, hc, hfz]
  · refine S.set ?_ fun c hc x hx => ?_
    · simp only [World.setCell]; rw [Array.getElem?_modify, if_pos rfl, hg]; rfl
    · simp only [World.setCell]; rw [Array.getElem?_modify, if_neg (Ne.symm hc)]; exact hx
end
theorem keyAt_rng {k n x i : Int} (hn : -9223372036854775808 ≤ n ∧ n ≤ 9223372036854775807) (hx : -9223372036854775808 ≤ x ∧ x ≤ 9223372036854775807) (hi : -9223372036854775808 ≤ i ∧ i ≤ 9223372036854775807) : -9223372036854775808 ≤ keyAt k n x i ∧ keyAt k n x i ≤ 9223372036854775807 := by
  unfold keyAt
  split
  · exact w64_range _
  split
  · exact w64_range _
  split
  · split
    · exact hx
    · rename_i h
      have h1 := Int.emod_nonneg x h
      have h2 := Int.emod_lt x h
      omega
  split
  · exact hn
  split
  · exact hi
  · exact hx
theorem keys_rng {k n : Int} {l : List Int} (hn : -9223372036854775808 ≤ n ∧ n ≤ 9223372036854775807) (hr : ∀ x ∈ l, -9223372036854775808 ≤ x ∧ x ≤ 9223372036854775807) : ∀ y ∈ l.map (fun x => keyAt k n x 0), -9223372036854775808 ≤ y ∧ y ≤ 9223372036854775807 := by
  intro y hy
  obtain ⟨x, hx, rfl⟩ := List.mem_map.1 hy
  exact keyAt_rng hn (hr x hx) (by omega)
theorem grpO_yesK {f : Int → Int × Int} {l : List Int} {k : Nat} {x y key : Int} (h : l[k]? = some x) (hy : (l.map fun x => (f x).1)[k]? = some y) (e : y = key) : grpO f key (l.take k) ++ [(f x).2] = grpO f key (l.take (k + 1)) := by
  rw [List.getElem?_map, h] at hy
  exact grpO_yes h (by simpa [e] using hy)
theorem grpO_noK {f : Int → Int × Int} {l : List Int} {k : Nat} {y key : Int} (hy : (l.map fun x => (f x).1)[k]? = some y) (e : ¬ y = key) : grpO f key (l.take k) = grpO f key (l.take (k + 1)) := by
  rw [List.getElem?_map] at hy
  cases h : l[k]? with
  | none => rw [h] at hy; cases hy
  | some x =>
    rw [h] at hy
    exact grpO_no h (by intro h1; apply e; rw [← h1]; simpa using hy.symm)
theorem grpS_one (f : Int → Int × Int) (x : Int) : (grpS f [x]).length = 1 := by rw [grpS, srtK_len]; rfl
theorem g2_eq {a b : Int × List Int} (h1 : ¬ a.1 ≠ b.1) (h2 : decide (a.2 = b.2) = true) : a = b := Prod.ext (Decidable.not_not.1 h1) (of_decide_eq_true h2)
theorem ml_len {t : MLE} {q : List (Int × List Int)} {N : Nat} (h : t.map (fun x => (x.1, x.2.2)) = q) (hb : ∀ x ∈ q, x.2.length ≤ N) {k : Int} {u : Value × List Int} (hk : (k, u) ∈ t) : u.2.length ≤ N :=
  hb (k, u.2) (h ▸ List.mem_map.2 ⟨(k, u), hk, rfl⟩)
theorem vis_perm {p t : MLE} {q : List (Int × List Int)} (h : p.Perm t) (e : t.map (fun x => (x.1, x.2.2)) = q) : (vis p).Perm q := e ▸ h.map _
/-- a slice of lists, with the lists -/
def OwnLL (e2 e : TypeId) (v : Value) (q : List (List Int)) : HProp := fun h => ∃ t : List (Value × List Int), t.map Prod.snd = q ∧ grp (OwnC e2 1 v t.length (t.map Prod.fst) :: t.map (entO e)) h
theorem openLL {w : World} {M : Hp} {H : List HProp} {e2 e : TypeId} {v : Value} {q : List (List Int)} (s : St w M (OwnLL e2 e v q :: H)) : ∃ t : List (Value × List Int), t.map Prod.snd = q ∧ St w M (OwnC e2 1 v t.length (t.map Prod.fst) :: ((t.map (entO e)) ++ H)) := by
  obtain ⟨t, s⟩ := St.ex (P := fun (t : List (Value × List Int)) h => t.map Prod.snd = q ∧ grp (OwnC e2 1 v t.length (t.map Prod.fst) :: t.map (entO e)) h) s
  obtain ⟨h, s⟩ := St.pure_ s
  exact ⟨t, h, ungrp s⟩
theorem closeLL {w : World} {M : Hp} {H : List HProp} {e2 e : TypeId} {v : Value} {t : List (Value × List Int)} (s : St w M (OwnC e2 1 v t.length (t.map Prod.fst) :: ((t.map (entO e)) ++ H))) : St w M (OwnLL e2 e v (t.map Prod.snd) :: H) :=
  (regrp (A := OwnC e2 1 v t.length (t.map Prod.fst) :: t.map (entO e)) s).imp fun _ h => ⟨t, rfl, h⟩
theorem newLL {w : World} {M : Hp} {H : List HProp} {e2 e : TypeId} {v : Value} (s : St w M (OwnC e2 1 v 0 [] :: H)) : St w M (OwnLL e2 e v [] :: H) := closeLL (t := ([] : List (Value × List Int))) s
theorem reLL {w : World} {M : Hp} {H : List HProp} {e2 e : TypeId} {v : Value} {q q' : List (List Int)} (s : St w M (OwnLL e2 e v q :: H)) (h : q = q') : St w M (OwnLL e2 e v q' :: H) := h ▸ s
/-- list k taken out: what closes it again is said for all states -/
theorem lookLL {w : World} {M : Hp} {H : List HProp} {e2 e : TypeId} {v : Value} {q : List (List Int)} (k : Nat) (hk : k < q.length) (s : St w M (OwnLL e2 e v q :: H)) :
    ∃ (xs : List Value) (rest : List HProp) (hv : Value) (l : List Int), xs[k]? = some hv ∧ q[k]? = some l ∧
      (∀ (w' : World) (M' : Hp) (H' : List HProp) (hv' : Value) (l' : List Int), St w' M' (OwnC e2 1 v q.length (xs.set k hv') :: OwnI e hv' l' :: grp rest :: H') → St w' M' (OwnLL e2 e v (q.set k l') :: H')) ∧
      St w M (OwnC e2 1 v q.length xs :: OwnI e hv l :: grp rest :: H) := by
  obtain ⟨t, hq, s0⟩ := openLL s
  subst hq; clear s; have s := s0; clear s0
  rw [List.length_map] at hk
  have ht : t = t.take k ++ t[k] :: t.drop (k + 1) := by rw [← List.drop_eq_getElem_cons hk, List.take_append_drop]
  refine ⟨t.map Prod.fst, (t.take k).map (entO e) ++ (t.drop (k + 1)).map (entO e), t[k].1, t[k].2, by simp [hk], by simp [hk], ?_, ?_⟩
  · intro w' M' H' hv' l' s'
    have hs : t.set k (hv', l') = t.take k ++ (hv', l') :: t.drop (k + 1) := by
      rw [List.set_eq_take_append_cons_drop, if_pos hk]
    have s1 : St w' M' (OwnC e2 1 v (t.map Prod.snd).length ((t.map Prod.fst).set k hv') :: entO e (hv', l') :: (((t.take k).map (entO e) ++ (t.drop (k + 1)).map (entO e)) ++ H')) :=
      St.under2 s' fun h hh => let ⟨g1, g2, d, e, h1, h2⟩ := hh; sat_app.2 ⟨g1, g2, d, e, h1, h2⟩
    have s2 : St w' M' (OwnC e2 1 v (t.set k (hv', l')).length ((t.set k (hv', l')).map Prod.fst) :: (((t.set k (hv', l')).map (entO e)) ++ H')) := by
      rw [List.length_set, List.map_set, ← List.length_map (f := Prod.snd)]
      refine s1.perm (List.Perm.cons _ ?_)
      rw [hs, List.map_append, List.map_cons, List.append_assoc, List.append_assoc]
      exact (List.perm_middle (l₁ := (t.take k).map (entO e)) (a := entO e (hv', l')) (l₂ := (t.drop (k + 1)).map (entO e) ++ H')).symm
    have s3 := closeLL s2
    rw [List.map_set] at s3; exact s3
  · have s2 : St w M (OwnC e2 1 v t.length (t.map Prod.fst) :: entO e t[k] :: (((t.take k).map (entO e) ++ (t.drop (k + 1)).map (entO e)) ++ H)) := by
      refine s.perm (List.Perm.cons _ ?_)
      conv => lhs; rw [ht]
      rw [List.map_append, List.map_cons, List.append_assoc, List.append_assoc]
      exact List.perm_middle (l₁ := (t.take k).map (entO e)) (a := entO e t[k]) (l₂ := (t.drop (k + 1)).map (entO e) ++ H)
    rw [List.length_map]
    exact St.under2 s2 fun h hh => let ⟨g1, g2, d, e, h1, h2⟩ := sat_app.1 hh; ⟨g1, g2, d, e, h1, h2⟩
theorem freezeEnt {w : World} {e : TypeId} : ∀ {t : List (Value × List Int)} {M : Hp} {H : List HProp}, (∀ x ∈ t, x.2.length ≤ 1000000000000) → St w M ((t.map (entO e)) ++ H) → ∃ M', Hp.le M M' ∧ (∀ x ∈ t, RdI M' x.1 x.2) ∧ St w M' H
  | [], M, H, _, s => ⟨M, Hp.le.refl _, fun x hx => (by cases hx), s⟩
  | a :: t, M, H, hb, s => by
    have s1 : St w M (OwnI e a.1 a.2 :: ((t.map (entO e)) ++ H)) := s
    obtain ⟨M1, h1, r1, s2⟩ := s1.freezeI (by have := hb a (List.mem_cons_self ..); omega)
    obtain ⟨M2, h2, r2, s3⟩ := freezeEnt (t := t) (fun x hx => hb x (List.mem_cons_of_mem _ hx)) s2
    refine ⟨M2, h1.trans h2, fun x hx => ?_, s3⟩
    rcases List.mem_cons.1 hx with hx | hx
    · subst hx; exact r1.le h2
    · exact r2 x hx
/-- all frozen -/
theorem frzLL {w : World} {M : Hp} {H : List HProp} {e2 e : TypeId} {v : Value} {q : List (List Int)} (s : St w M (OwnLL e2 e v q :: H)) (hb : ∀ l ∈ q, l.length ≤ 1000000000000) (hl : q.length ≤ 1000000000000) :
    ∃ M' : Hp, Hp.le M M' ∧ RdII M' v q ∧ St w M' H := by
  obtain ⟨t, hq, s0⟩ := openLL s
  subst hq; clear s; have s := s0; clear s0
  obtain ⟨M1, h1, r1, s⟩ := freezeEnt (H := OwnC e2 1 v t.length (t.map Prod.fst) :: H) (fun x hx => hb x.2 (List.mem_map_of_mem hx)) (s.perm (List.perm_middle (l₁ := t.map (entO e)) (a := OwnC e2 1 v t.length (t.map Prod.fst)) (l₂ := H)).symm)
  rw [← List.length_map (f := Prod.snd)] at s
  have hr : RowsR (RSl 1 RInt) 1 M1 (t.map Prod.snd) (t.map Prod.fst) := by
    refine ⟨by simp, fun u hu => ?_, fun i x hx => ?_⟩
    · obtain ⟨x, hx, rfl⟩ := List.mem_map.1 hu
      exact RdI.one (r1 x hx)
    · rw [List.getElem?_map] at hx
      cases ht : t[i]? with
      | none => rw [ht] at hx; cases hx
      | some y =>
        rw [ht] at hx
        have e1 : y.2 = x := by simpa using hx
        rw [Nat.mul_one, List.take_one, List.head?_drop, List.getElem?_map, ht]
        exact ⟨y.1, rfl, e1 ▸ r1 y (List.mem_of_getElem? ht)⟩
  obtain ⟨M2, h2, r2, s⟩ := s.freezeR hr (RSl_mono RInt_mono) (by omega)
  exact ⟨M2, h1.trans h2, r2, s⟩
section
variable {r : Option Nat} {P : Program} {Q : Exit → Act → World → Prop} {a : Act} {w : World}
  {n : Nat} {ds : List Deferred} {l : List (Nat × Value)} {d : Nat} {ty t el : TypeId} {pos : String} {af : Array Edge} {gd : Option (Nat × Bool)} {x y : Operand}
  {next : Act → World → Prop} {M : Hp} {H : List HProp} {v : Value} {by_ : Nat} {zv : Value}
/-- a list that was made just now is appended, with what it holds -/
theorem X_appendLL {e' e : TypeId} {q : List (List Int)} {sv hdr : Value} {xs : List Int} (E : Env a n ds l) (S : St w M (OwnC e' 1 sv 1 [hdr] :: OwnI e hdr xs :: OwnLL el e v q :: H)) (hd : Nat.blt d n = true) (hx : opv l x = some v) (hy : opv l y = some sv) (T : SlT P t el 1 by_ zv)
    (hb : (q.length + 1) * by_ ≤ 140737488355328) (h63 : q.length + 1 ≤ 2 ^ 44)
    (kk : ∀ a w' v', Env a n ds ((d, v') :: l) → St w' M (OwnLL el e v' (q ++ [xs]) :: H) → next a w') : (⟨some d, .call ⟨.builtin .append, #[x, y], #[t, t]⟩, ty, pos, af, gd⟩ : Oper).wpIn (Fw r) 0 P a w next Q := by
  have s1 : St w M (OwnLL el e v q :: OwnI e hdr xs :: OwnC e' 1 sv 1 [hdr] :: H) := S.perm (by
    refine List.Perm.trans (List.Perm.swap ..) ?_
    refine List.Perm.trans (List.Perm.cons _ (List.Perm.swap ..)) ?_
    exact List.Perm.swap ..)
  obtain ⟨t0, rfl, s2⟩ := openLL s1
  have h1 : hdr.oneCell' = true := by
    have := S.drop.oneC; exact this
  have s3 : St w M (OwnC el 1 v t0.length (t0.map Prod.fst) :: ((t0.map (entO e)) ++ (OwnI e hdr xs :: H))) := by
    have := s2.perm (H' := OwnC e' 1 sv 1 [hdr] :: OwnC el 1 v t0.length (t0.map Prod.fst) :: ((t0.map (entO e)) ++ (OwnI e hdr xs :: H))) (by
      refine List.Perm.trans (List.Perm.cons _ (List.Perm.append_left _ (List.Perm.swap ..))) ?_
      refine List.Perm.trans (List.Perm.cons _ List.perm_middle) ?_
      exact List.Perm.swap ..)
    exact this.drop
  rw [List.length_map] at hb h63
  refine X_append E s3 hd hx hy T (Src.own S) (by simp) (by intro u hu; simp at hu; rw [hu]; exact h1) hb h63 fun a w' v' E S => kk a w' v' E ?_
  have s4 : St w' M (OwnC el 1 v' (t0 ++ [(hdr, xs)]).length ((t0 ++ [(hdr, xs)]).map Prod.fst) :: (((t0 ++ [(hdr, xs)]).map (entO e)) ++ H)) := by
    rw [List.length_append, List.map_append, List.map_append, List.append_assoc]; exact S
  have s5 := closeLL s4
  rw [List.map_append] at s5; exact s5
end
theorem lenLL {w : World} {M : Hp} {H : List HProp} {e2 e : TypeId} {v : Value} {q : List (List Int)} (s : St w M (OwnLL e2 e v q :: H)) : LenV v q.length := by
  obtain ⟨t, hq, s0⟩ := openLL s
  subst hq; rw [List.length_map]; exact s0.lenC
theorem oneLL {w : World} {M : Hp} {H : List HProp} {e2 e : TypeId} {v : Value} {q : List (List Int)} (s : St w M (OwnLL e2 e v q :: H)) : v.oneCell' = true := by
  obtain ⟨t, hq, s0⟩ := openLL s
  exact s0.oneC
theorem key_read {f : Int → Int} {l : List Int} {k : Nat} {x y : Int} (h : l[k]? = some x) (hy : (l.map f)[k]? = some y) : y = f x := by
  rw [List.getElem?_map, h] at hy; simpa using hy.symm
/-! parts by keys -/
theorem fi_leB : ∀ {l : List Int} {k : Nat} {x : Int}, l[k]? = some x → 0 ≤ fiI (eqx x) l ∧ fiI (eqx x) l ≤ (k : Int)
  | [], k, x, h => by simp at h
  | a :: l, 0, x, h => by
    have e : a = x := by simpa using h
    rw [fiI_cons]; simp [eqx, e]
  | a :: l, k + 1, x, h => by
    have ih := fi_leB (l := l) (k := k) (x := x) (by simpa using h)
    rw [fiI_cons]
    split
    · omega
    · rw [if_neg (by omega)]; omega
def seenM (f : Int → Int) (p : List Int) : List (Int × Int) := (uqS f p).1.zipIdx.map fun z => (z.1, (z.2 : Int))
def partL (f : Int → Int) (p : List Int) : List (List Int) := (uqS f p).1.map fun key => p.filter fun x => decide (f x = key)
theorem part_ll (f : Int → Int) (p : List Int) : (partL f p).length ≤ p.length := by unfold partL; rw [List.length_map]; exact (uqS_len f p).2
theorem part_el {f : Int → Int} {p y : List Int} (h : y ∈ partL f p) : y.length ≤ p.length := by
  obtain ⟨key, _, rfl⟩ := List.mem_map.1 h; exact List.length_filter_le ..
theorem zipI_keys : ∀ (K : List Int) (n : Nat), ((K.zipIdx n).map fun z : Int × Nat => (z.1, (z.2 : Int))).map Prod.fst = K
  | [], _ => rfl
  | a :: K, n => by simp only [List.zipIdx_cons, List.map_cons, zipI_keys K (n + 1)]
theorem seenM_keys (f : Int → Int) (p : List Int) : (seenM f p).map Prod.fst = (uqS f p).1 := zipI_keys _ 0
theorem zipI_get : ∀ (K : List Int) (n : Nat) (key : Int), key ∈ K → ∃ j : Nat, getK 0 ((K.zipIdx n).map fun z : Int × Nat => (z.1, (z.2 : Int))) key = ((n + j : Nat) : Int) ∧ K[j]? = some key
  | [], _, key, h => by cases h
  | a :: K, n, key, h => by
    simp only [List.zipIdx_cons, List.map_cons, getK]
    by_cases e : a = key
    · exact ⟨0, by rw [if_pos e]; rfl, by simp [e]⟩
    · rw [if_neg e]
      obtain ⟨j, h1, h2⟩ := zipI_get K (n + 1) key (by rcases List.mem_cons.1 h with h | h; exact absurd h.symm e; exact h)
      exact ⟨j + 1, by rw [h1]; congr 1; omega, by simpa using h2⟩
theorem seen_at {f : Int → Int} {p : List Int} {key : Int} (h : hasK (seenM f p) key = true) : ∃ j : Nat, getK 0 (seenM f p) key = (j : Int) ∧ j < (partL f p).length ∧ (uqS f p).1[j]? = some key := by
  unfold hasK at h
  rw [seenM_keys] at h
  obtain ⟨j, h1, h2⟩ := zipI_get (uqS f p).1 0 key (of_decide_eq_true h)
  refine ⟨j, by rw [Nat.zero_add] at h1; exact h1, ?_, h2⟩
  unfold partL; rw [List.length_map]; exact (List.getElem?_eq_some_iff.1 h2).1
theorem seen_no {f : Int → Int} {p : List Int} {key : Int} (h : hasK (seenM f p) key = false) : key ∉ (uqS f p).1 := by
  unfold hasK at h
  rw [seenM_keys] at h
  exact of_decide_eq_false h
theorem putK_app {q : List (Int × Int)} {k v : Int} (h : k ∉ q.map Prod.fst) : putK q k v = q ++ [(k, v)] := by
  induction q with
  | nil => rfl
  | cons a q ih =>
    simp only [List.map_cons, List.mem_cons, not_or] at h
    simp only [putK]
    rw [if_neg (fun e => h.1 e.symm), ih h.2, List.cons_append]
theorem seen_new1 {f : Int → Int} {p : List Int} {x : Int} (h : hasK (seenM f p) (f x) = false) : putK (seenM f p) (f x) ((partL f p).length : Int) = seenM f (p ++ [x]) := by
  have hk := seen_no h
  rw [putK_app (by rw [seenM_keys]; exact hk)]
  unfold seenM partL
  rw [uq2_out hk]
  simp only []
  rw [List.zipIdx_append, List.map_append, List.length_map]
  simp
theorem seen_old1 {f : Int → Int} {p : List Int} {x : Int} {j : Nat} (h : (uqS f p).1[j]? = some (f x)) : seenM f p = seenM f (p ++ [x]) := by
  unfold seenM; rw [uq2_in (List.mem_of_getElem? h)]
theorem part_new1 {f : Int → Int} {p : List Int} {x : Int} (h : hasK (seenM f p) (f x) = false) : partL f p ++ [[x]] = partL f (p ++ [x]) := by
  have hk := seen_no h
  unfold partL
  rw [uq2_out hk]
  simp only []
  rw [List.map_append, List.map_singleton]
  have hno : p.filter (fun y => decide (f y = f x)) = [] := List.filter_eq_nil_iff.2 fun y hy e => hk (((uq_keys f p).1 _).2 (of_decide_eq_true e ▸ List.mem_map_of_mem hy))
  congr 1
  · exact List.map_congr_left fun key hkey => by
      have hne : ¬ f x = key := fun e => hk (e ▸ hkey)
      rw [List.filter_append, List.filter_cons_of_neg (by simpa using hne)]; simp
  · rw [List.filter_append, hno, List.filter_cons_of_pos (by simp)]; rfl
theorem part_set1 {f : Int → Int} {p l' : List Int} {x : Int} {j : Nat} (hk : (uqS f p).1[j]? = some (f x)) (hl : (partL f p)[j]? = some l') : (partL f p).set j (l' ++ [x]) = partL f (p ++ [x]) := by
  have hK : (uqS f (p ++ [x])).1 = (uqS f p).1 := by rw [uq2_in (List.mem_of_getElem? hk)]
  have hnd := (uq_keys f p).2.2
  refine List.ext_getElem? fun i => ?_
  rw [List.getElem?_set]
  have e1 : (partL f (p ++ [x]))[i]? = (uqS f p).1[i]?.map fun key => (p ++ [x]).filter fun y => decide (f y = key) := by unfold partL; rw [hK, List.getElem?_map]
  have e0 : ∀ i : Nat, (partL f p)[i]? = (uqS f p).1[i]?.map fun key => p.filter fun y => decide (f y = key) := fun i => by unfold partL; rw [List.getElem?_map]
  rw [e1]
  by_cases hij : j = i
  · subst hij
    have hlt : j < (partL f p).length := (List.getElem?_eq_some_iff.1 hl).1
    rw [if_pos rfl, if_pos hlt, hk]
    rw [e0, hk] at hl
    have hl2 : p.filter (fun y => decide (f y = f x)) = l' := by simpa using hl
    simp only [Option.map_some]
    rw [List.filter_append, hl2, List.filter_cons_of_pos (by simp)]; rfl
  · rw [if_neg hij, e0]
    cases hi : (uqS f p).1[i]? with
    | none => rfl
    | some key =>
      have hne : ¬ f x = key := fun e => hij (by
        subst e
        obtain ⟨h1, h2⟩ := List.getElem?_eq_some_iff.1 hk
        obtain ⟨h3, h4⟩ := List.getElem?_eq_some_iff.1 hi
        exact (List.getElem_inj hnd).1 (h2.trans h4.symm))
      simp only [Option.map_some]
      rw [List.filter_append, List.filter_cons_of_neg (by simpa using hne)]; simp
theorem seen_new {f : Int → Int} {l : List Int} {k : Nat} {x : Int} (h : l[k]? = some x) (e : hasK (seenM f (l.take k)) (f x) = false) : putK (seenM f (l.take k)) (f x) ((partL f (l.take k)).length : Int) = seenM f (l.take (k + 1)) := by rw [take_snoc h, seen_new1 e]
theorem seen_old {f : Int → Int} {l : List Int} {k j : Nat} {x : Int} (h : l[k]? = some x) (hk : (uqS f (l.take k)).1[j]? = some (f x)) : seenM f (l.take k) = seenM f (l.take (k + 1)) := by rw [take_snoc h]; exact seen_old1 hk
theorem part_new {f : Int → Int} {l : List Int} {k : Nat} {x : Int} (h : l[k]? = some x) (e : hasK (seenM f (l.take k)) (f x) = false) : partL f (l.take k) ++ [[x]] = partL f (l.take (k + 1)) := by rw [take_snoc h]; exact part_new1 e
theorem part_set {f : Int → Int} {l l' : List Int} {k j : Nat} {x : Int} (h : l[k]? = some x) (hk : (uqS f (l.take k)).1[j]? = some (f x)) (hl : (partL f (l.take k))[j]? = some l') : (partL f (l.take k)).set j (l' ++ [x]) = partL f (l.take (k + 1)) := by rw [take_snoc h]; exact part_set1 hk hl
/-- parts of l, by the keys among p -/
def partP (f : Int → Int) (l p : List Int) : List (List Int) := (uqS f p).1.map fun key => l.filter fun x => decide (f x = key)
theorem partP_len (f : Int → Int) (l p : List Int) : (partP f l p).length ≤ p.length := by unfold partP; rw [List.length_map]; exact (uqS_len f p).2
theorem pp_old {f : Int → Int} {l : List Int} {k : Nat} {y : Int} (hk : k < l.length) (hy : (l.map f)[k]? = some y) (e : fiI (eqx y) (l.map f) < (k : Int)) : partP f l (l.take k) = partP f l (l.take (k + 1)) := by
  have hx : l[k]? = some l[k] := List.getElem?_eq_getElem hk
  have h1 : y ∈ (l.map f).take k := Decidable.not_not.1 fun h2 => by have := (fi_firstB hy).2 h2; omega
  rw [← List.map_take] at h1
  have hr := key_read hx hy
  subst hr
  unfold partP; rw [uq1_in hx (((uq_keys f _).1 _).2 h1)]
theorem pp_new {f : Int → Int} {l : List Int} {k : Nat} {y : Int} {r : List Int} (hk : k < l.length) (hy : (l.map f)[k]? = some y) (e : ¬ fiI (eqx y) (l.map f) < (k : Int)) (hr2 : l.filter (fun x => decide (f x = y)) = r) : partP f l (l.take k) ++ [r] = partP f l (l.take (k + 1)) := by
  have hx : l[k]? = some l[k] := List.getElem?_eq_getElem hk
  have h1 : y ∉ (l.map f).take k := (fi_firstB hy).1 (by have := (fi_leB hy).2; omega)
  rw [← List.map_take] at h1
  have hr := key_read hx hy
  subst hr; subst hr2
  unfold partP; rw [uq1_out hx (fun h => h1 (((uq_keys f _).1 _).1 h))]
  simp only []
  rw [List.map_append]; rfl
theorem pz_yes {f : Int → Int} {l : List Int} {k : Nat} {x y z : Int} (h : l[k]? = some x) (hy : (l.map f)[k]? = some y) (e : y = z) : (l.take k).filter (fun x => decide (f x = z)) ++ [x] = (l.take (k + 1)).filter fun x => decide (f x = z) := by
  have hr := key_read h hy
  subst hr; rw [tk_snoc h, List.filter_append, List.filter_cons_of_pos (by simpa using e)]; rfl
theorem pz_no {f : Int → Int} {l : List Int} {k : Nat} {y z : Int} (hk : k < l.length) (hy : (l.map f)[k]? = some y) (e : ¬ y = z) : (l.take k).filter (fun x => decide (f x = z)) = (l.take (k + 1)).filter fun x => decide (f x = z) := by
  have hx : l[k]? = some l[k] := List.getElem?_eq_getElem hk
  have hr := key_read hx hy
  subst hr; rw [tk_snoc hx, List.filter_append, List.filter_cons_of_neg (by simpa using e)]; simp
theorem pl_yes {f : Int → Int} {l : List Int} {k : Nat} {x z : Int} (h : l[k]? = some x) (e : f x = z) : (l.take k).filter (fun x => decide (f x = z)) ++ [x] = (l.take (k + 1)).filter fun x => decide (f x = z) := by
  rw [tk_snoc h, List.filter_append, List.filter_cons_of_pos (by simpa using e)]; rfl
theorem pl_no {f : Int → Int} {l : List Int} {k : Nat} {x z : Int} (h : l[k]? = some x) (e : ¬ f x = z) : (l.take k).filter (fun x => decide (f x = z)) = (l.take (k + 1)).filter fun x => decide (f x = z) := by
  rw [tk_snoc h, List.filter_append, List.filter_cons_of_neg (by simpa using e)]; simp
theorem grpS_cg {f g : Int → Int × Int} {l : List Int} (h : ∀ x ∈ l, f x = g x) : grpS f l = grpS g l := by
  unfold grpS grpE
  rw [foldl_cg (F := fun q x => putK q (f x).1 (getK [] q (f x).1 ++ [(f x).2])) (G := fun q x => putK q (g x).1 (getK [] q (g x).1 ++ [(g x).2]))]
  intro x hx s; rw [h x hx]
theorem grpS_self {f : Int → Int} {l : List Int} (h : ∀ x ∈ l, -9223372036854775808 ≤ x ∧ x ≤ 9223372036854775807) : grpS (fun x => (f x, keyAt 0 0 x 0)) l = grpS (fun x => (f x, x)) l :=
  grpS_cg fun x hx => by show (f x, keyAt 0 0 x 0) = (f x, x); rw [show keyAt 0 0 x 0 = x from k0_id h x hx]
theorem grpS_same (f : Int → Int) (l : List Int) : grpS (fun x => (f x, keyAt 5 0 x 0)) l = grpS (fun x => (f x, x)) l :=
  grpS_cg fun x hx => by show (f x, keyAt 5 0 x 0) = (f x, x); simp [keyAt]
theorem grpS_filt (f : Int → Int) (l : List Int) : (setI (uqS f l).1).map (fun key => (key, l.filter fun x => decide (f x = key))) = grpS (fun x => (f x, x)) l := by
  have e : setI (uqS f l).1 = setI (l.map f) := setI_eq fun z => (uq_keys f l).1 z
  rw [e]
  refine Eq.trans ?_ (grpS_keys (fun x => (f x, x)) l)
  exact List.map_congr_left fun key _ => by
    show (key, _) = (key, grpO (fun x => (f x, x)) key l)
    unfold grpO; rw [List.map_id']
theorem mpL_snoc {SK : List Int} {j : Nat} {x : Int} {g : Int → List Int} {v : List Int} (h : SK[j]? = some x) (hv : g x = v) : (SK.take j).map g ++ [v] = (SK.take (j + 1)).map g := by rw [tk_snoc h, List.map_append, List.map_singleton, hv]
theorem pz_yes2 {f : Int → Int} {l : List Int} {i k : Nat} {x y z z' : Int} (h : l[k]? = some x) (e : y = z') (hy : (l.map f)[k]? = some y) (hz : (l.map f)[i]? = some z') (hz2 : (l.map f)[i]? = some z) : (l.take k).filter (fun x => decide (f x = z)) ++ [x] = (l.take (k + 1)).filter fun x => decide (f x = z) :=
  pz_yes h hy (e.trans (Option.some.inj (hz.symm.trans hz2)))
theorem pz_no2 {f : Int → Int} {l : List Int} {i k : Nat} {y z z' : Int} (hk : k < l.length) (e : ¬ y = z') (hy : (l.map f)[k]? = some y) (hz : (l.map f)[i]? = some z') (hz2 : (l.map f)[i]? = some z) : (l.take k).filter (fun x => decide (f x = z)) = (l.take (k + 1)).filter fun x => decide (f x = z) :=
  pz_no hk hy (fun h => e (h.trans (Option.some.inj (hz2.symm.trans hz))))

end Go.Proofs.Ytpncgdecfhfjmaa.wFnGroups
