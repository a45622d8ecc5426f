/- Walks through the functions that laws.FnRangeSteps reaches: what each computes; no conditions beyond what each theorem states. -/
import Derived.Test.YtejfcglfjdfneaaProg
import Derived.Test.YtejfcglfjdfneaaSlY
set_option linter.unusedVariables false
set_option linter.unusedSimpArgs false
namespace Go.Proofs.Ytejfcglfjdfneaa.wFnRangeSteps
open Go Go.Sl
theorem Try.mixed : Try.prog.follows .mixedOrders = true := by kernel_rfl
theorem T24 : SlT Try.prog 24 3 1 8 (.int .i64 0) := ⟨Try.underlying24, ⟨Try.t3, by kernel_rfl, rfl, rfl, rfl⟩, rfl, by decide⟩
def PF2T (P : Program) (fv : Value) (M : Hp) (f : Int → Int → Int × Bool) : Prop := fv.oneCell' = true ∧ ∀ x i : Int, Pu P fv M [.int .i64 x, .int .i64 i] (fun r _ => r = .tuple #[.int .i64 (f x i).1, .bool (f x i).2])
theorem PF2T.le {P : Program} {fv : Value} {M M' : Hp} {f : Int → Int → Int × Bool} (h : PF2T P fv M f) (hM : Hp.le M M') : PF2T P fv M' f := ⟨h.1, fun x i => (h.2 x i).le hM⟩
def SortedI (l : List Int) : Prop := l.Pairwise (· ≤ ·)
def SortedU (l : List Int) : Prop := l.Pairwise (· < ·)
theorem SortedU.le {l : List Int} (h : SortedU l) : SortedI l := List.Pairwise.imp (fun h => by omega) h
instance (l : List Int) : Decidable (SortedI l) := inferInstanceAs (Decidable (l.Pairwise (· ≤ ·)))
def g0 (l : List Int) (i : Nat) : Int := (l[i]?).getD 0
structure SlS where
  buf : List Int
  cnt : Nat
  skip : Nat
  out : List (List Int)
def PF2U (P : Program) (fv : Value) (M : Hp) (f : Int → Int → Int × Int) : Prop := fv.oneCell' = true ∧ ∀ x i : Int, Pu P fv M [.int .i64 x, .int .i64 i] (fun r _ => r = .tuple #[.int .i64 (f x i).1, .int .i64 (f x i).2])
theorem PF2U.le {P : Program} {fv : Value} {M M' : Hp} {f : Int → Int → Int × Int} (h : PF2U P fv M f) (hM : Hp.le M M') : PF2U P fv M' f := ⟨h.1, fun x i => (h.2 x i).le hM⟩
def PF1U (P : Program) (fv : Value) (M : Hp) (f : Int → Int × Int) : Prop := fv.oneCell' = true ∧ ∀ x : Int, Pu P fv M [.int .i64 x] (fun r _ => r = .tuple #[.int .i64 (f x).1, .int .i64 (f x).2])
theorem PF1U.le {P : Program} {fv : Value} {M M' : Hp} {f : Int → Int × Int} (h : PF1U P fv M f) (hM : Hp.le M M') : PF1U P fv M' f := ⟨h.1, fun x => (h.2 x).le hM⟩
def PF2V (P : Program) (fv : Value) (M : Hp) (f : Int → Int → Int × Int × Bool) : Prop := fv.oneCell' = true ∧ ∀ x i : Int, Pu P fv M [.int .i64 x, .int .i64 i] (fun r _ => r = .tuple #[.int .i64 (f x i).1, .int .i64 (f x i).2.1, .bool (f x i).2.2])
theorem PF2V.le {P : Program} {fv : Value} {M M' : Hp} {f : Int → Int → Int × Int × Bool} (h : PF2V P fv M f) (hM : Hp.le M M') : PF2V P fv M' f := ⟨h.1, fun x i => (h.2 x i).le hM⟩
def RMp : Hp → List Value → List (Int × Int) → Prop := fun M cs q => ∃ v, cs = [v] ∧ RdM M v (encE (Value.int .i64) q)
theorem RdMp.at {M : Hp} {v : Value} {l : List (List (Int × Int))} {k : Nat} {e : List (Int × Int)} (h : RdS 1 RMp M v l) (he : l[k]? = some e) : ∃ p u, IdxPtr v k 1 p ∧ cellM M p = some u ∧ RdM M u (encE (Value.int .i64) e) := by
  obtain ⟨p, u, h1, h2, ⟨v, h3, h4⟩⟩ := h.at1 he
  cases h3; exact ⟨p, u, h1, h2, h4⟩
theorem RdPP.at {M : Hp} {v : Value} {l : List (List (Int × Int))} {k : Nat} {e : List (Int × Int)} (h : RdS 1 (RSl 2 RP2) M v l) (he : l[k]? = some e) : ∃ p u, IdxPtr v k 1 p ∧ cellM M p = some u ∧ RdS 2 RP2 M u e := by
  obtain ⟨p, u, h1, h2, ⟨v, h3, h4⟩⟩ := h.at1 he
  cases h3; exact ⟨p, u, h1, h2, h4⟩
theorem dec_t {p : Prop} [Decidable p] (h : p) : decide p = true := decide_eq_true h
theorem dec_f {p : Prop} [Decidable p] (h : p) : (!decide p) = false := by rw [decide_eq_true h]; rfl
def PFAB (P : Program) (fv : Value) (M : Hp) (f : Int × Int → Bool) : Prop := fv.oneCell' = true ∧ ∀ x y : Int, ((-9223372036854775808 ≤ x ∧ x ≤ 9223372036854775807) ∧ (-9223372036854775808 ≤ y ∧ y ≤ 9223372036854775807)) → Pu P fv M [.agg #[.int .i64 x, .int .i64 y]] (fun r _ => r = .bool (f (x, y)))
theorem PFAB.le {P : Program} {fv : Value} {M M' : Hp} {f : Int × Int → Bool} (h : PFAB P fv M f) (hM : Hp.le M M') : PFAB P fv M' f := ⟨h.1, fun x y g => (h.2 x y g).le hM⟩
def RA2 : Hp → List Value → List (Int × Int) × List (Int × Int) → Prop := fun M cs x => ∃ u v, cs = [u, v] ∧ RdS 2 RP2 M u x.1 ∧ RdS 2 RP2 M v x.2
theorem RdA2.at {M : Hp} {v : Value} {l : List (List (Int × Int) × List (Int × Int))} {k : Nat} {e : List (Int × Int) × List (Int × Int)} (h : RdS 2 RA2 M v l) (he : l[k]? = some e) : ∃ p u1 u2, IdxPtr v k 2 p ∧ cellsM M p [u1, u2] ∧ RdS 2 RP2 M u1 e.1 ∧ RdS 2 RP2 M u2 e.2 := by
  obtain ⟨p, cs, h1, h2, ⟨u1, u2, h3, h5, h6⟩, h4⟩ := RdS.at h he
  subst h3; exact ⟨p, u1, u2, h1, h4, h5, h6⟩
abbrev MLE := List (Int × Value × List Int)
/-- a key with a frozen list -/
def RG2 : Hp → List Value → Int × List Int → Prop := fun M cs x => ∃ v, cs = [.int .i64 x.1, v] ∧ RdI M v x.2
theorem RdG2.at {M : Hp} {v : Value} {l : List (Int × List Int)} {k : Nat} {e : Int × List Int} (h : RdS 2 RG2 M v l) (he : l[k]? = some e) : ∃ p u, IdxPtr v k 2 p ∧ cellsM M p [.int .i64 e.1, u] ∧ RdI M u e.2 := by
  obtain ⟨p, cs, h1, h2, ⟨u, h3, h5⟩, h4⟩ := RdS.at h he
  subst h3; exact ⟨p, u, h1, h4, h5⟩
/-- a frozen map of frozen lists -/
def RdML (M : Hp) (v : Value) (q : List (Int × List Int)) : Prop := ∃ t : MLE, t.map (fun x => (x.1, x.2.2)) = q ∧ RdM M v (encE Prod.fst t) ∧ ∀ x ∈ t, RdI M x.2.1 x.2.2
theorem RdML.le {M M' : Hp} {v : Value} {q : List (Int × List Int)} (h : RdML M v q) (hM : Hp.le M M') : RdML M' v q := by
  obtain ⟨t, h1, h2, h3⟩ := h; exact ⟨t, h1, h2.le hM, fun x hx => (h3 x hx).le hM⟩
section
variable {r : Option Nat} {P : Program} {Q : Exit → Act → World → Prop} {a : Act} {w : World}
  {n : Nat} {ds : List Deferred} {l : List (Nat × Value)} {ty t : TypeId} {pos : String} {af : Array Edge} {gd : Option (Nat × Bool)} {x y : Operand}
  {next : Act → World → Prop} {M : Hp} {H : List HProp}
end
section
variable {r : Option Nat} {P : Program} {Q : Exit → Act → World → Prop} {a : Act} {w : World}
  {n : Nat} {ds : List Deferred} {l : List (Nat × Value)} {d : Nat} {ty t el : TypeId} {pos : String} {af : Array Edge} {gd : Option (Nat × Bool)} {x y : Operand}
  {next : Act → World → Prop} {M : Hp} {H : List HProp} {v : Value} {by_ : Nat} {zv : Value}
end
/-! ### functions that panic, and a function that recovers -/
section
variable {P : Program}
/-- a call that panics with a value held as an interface -/
def CallP (P : Program) (fv : Value) (args : List Value) (w : World) (R : Value → World → Prop) : Prop :=
  ∀ (r : Option Nat) (o : Oper) (c : Call) (f : Operand) (a : Act) (next : Act → World → Prop) (Q : Exit → Act → World → Prop), o.op = .call c → c.callee = .value f → a.eval f = fv →
    c.args.toList.map a.eval = args → (∀ t u w', R (.iface t u) w' → Q (.panic [{ v := .iface t u, recovered := false }]) a w') → o.wpIn (Fw r) 0 P a w next Q
def PEnd (R : Value → World → Prop) : Ending → World → Prop := fun e w' => ∃ t u, e = .panicked [{ v := .iface t u, recovered := false }] ∧ R (.iface t u) w'
theorem CallP.func {g : FuncId} {first cap : Array Value} {args : List Value} {w : World} {R : Value → World → Prop}
    (hc : ∀ args w, (callFunc g args).run P w = .ok (.enter g args) w)
    (h : Calls P g (first.toList ++ args ++ cap.toList).toArray w (PEnd R)) : CallP P (.func (.func g) first cap) args w R := by
  intro r o c f a next Q h1 h2 h3 h4 h5
  refine ⟨fun _ _ => trivial, ?_⟩
  rw [semAt_nodefer (by rw [h1]; rfl)]
  have e4 : c.args.map a.eval = args.toArray := by rw [← h4, ← Array.toList_map, Array.toArray_toList]
  have : (execOp a.eval o).run P w = .ok (.enter g (first ++ args.toArray ++ cap)) w := by
    simp only [execOp, h1, resolve, h2, h3, e4, Deferred.ofValue]
    simp [invoke, hc]
  rw [this]
  refine ⟨fun h => by simp [Fw_depth] at h, ?_⟩
  rw [callsIn_Fw, show first ++ args.toArray ++ cap = (first.toList ++ args ++ cap.toList).toArray by simp]
  exact h.mono fun e w' ⟨t, u, he, hR⟩ => by subst he; exact h5 t u w' hR
/-- from the frozen memory M on: a call panics; what is owned stays -/
def PuP (P : Program) (fv : Value) (M : Hp) (args : List Value) : Prop :=
  ∀ w M1 H, Hp.le M M1 → St w M1 H → CallP P fv args w (fun _ w' => ∃ M2, Hp.le M1 M2 ∧ St w' M2 H)
theorem PuP.le {fv : Value} {M M' : Hp} {args : List Value} (h : PuP P fv M args) (hM : Hp.le M M') : PuP P fv M' args := fun w M1 H h1 => h w M1 H (hM.trans h1)
/-- a function without arguments that panics -/
def PF0P (P : Program) (fv : Value) (M : Hp) : Prop := fv.oneCell' = true ∧ PuP P fv M []
theorem PF0P.le {fv : Value} {M M' : Hp} (h : PF0P P fv M) (hM : Hp.le M M') : PF0P P fv M' := ⟨h.1, h.2.le hM⟩
variable {Q : Exit → Act → World → Prop} {a : Act} {w : World} {n : Nat} {ds : List Deferred} {l : List (Nat × Value)} {fn : Func} {R : Ending → World → Prop} {M : Hp} {H : List HProp} {next : Act → World → Prop} {r : Option Nat}
end
/-! floats: the ceiling of a quotient of small whole numbers is a small whole number -/
section
open Ieee
theorem pow2_52 : (2:Nat)^52 = 4503599627370496 := by decide
theorem cutE (way : Toward) (neg : Bool) (n drop : Nat) : ∃ b : Bool, way.cut neg n drop = n / 2^(min drop (n.log2+2)) + b.toNat := ⟨_, by unfold Toward.cut; rw [Nat.one_shiftLeft]⟩
theorem cut0 (neg : Bool) (n : Nat) : Toward.even.cut neg n 0 = n := by
  unfold Toward.cut
  simp [Nat.mod_one]
theorem cutU (n drop : Nat) : Toward.up.cut false n drop = n / 2^(min drop (n.log2+2)) + (n % 2^(min drop (n.log2+2)) != 0).toNat := by
  unfold Toward.cut; rw [Nat.one_shiftLeft]; simp
theorem btn (b : Bool) : b.toNat ≤ 1 := by cases b <;> decide
/-- a number brought into the format, and read again -/
theorem near_read {mag : Nat} {place E : Int} (h0 : mag ≠ 0) (hE : place + mag.log2 = E) (h1 : -1000 ≤ E) (h2 : E ≤ 1000) :
    ∃ m p, Ieee.double.read (Ieee.double.nearest false mag place) = .number false m p ∧ 4503599627370496 ≤ m ∧ m < 9007199254740992 ∧ (p = E - 52 ∨ p = E - 51) := by
  have hl := Nat.log2_self_le h0
  have hu := Nat.lt_log2_self (n := mag)
  have e1 : max (place + (mag.log2 : Int) - ((52 : Nat) : Int)) (-1074) = E - 52 := by omega
  -- the kept digits
  obtain ⟨kept, hk, k1, k2⟩ : ∃ kept, Toward.even.cut false (mag <<< (place - (E - 52)).toNat) ((E - 52) - place).toNat = kept ∧ 4503599627370496 ≤ kept ∧ kept ≤ 9007199254740992 := by
    refine ⟨_, rfl, ?_⟩
    by_cases hL : mag.log2 ≤ 52
    · have d0 : ((E - 52) - place).toNat = 0 := by omega
      have d1 : (place - (E - 52)).toNat = 52 - mag.log2 := by omega
      rw [d0, cut0, d1, Nat.shiftLeft_eq]
      have e2 : 2 ^ mag.log2 * 2 ^ (52 - mag.log2) = 4503599627370496 := by rw [← Nat.pow_add, show mag.log2 + (52 - mag.log2) = 52 by omega]
      have e3 : 2 ^ (mag.log2 + 1) * 2 ^ (52 - mag.log2) = 9007199254740992 := by rw [← Nat.pow_add, show mag.log2 + 1 + (52 - mag.log2) = 53 by omega]
      have h3 := Nat.mul_le_mul_right (2 ^ (52 - mag.log2)) hl
      have h4 := Nat.mul_le_mul_right (2 ^ (52 - mag.log2)) (Nat.le_of_lt hu)
      omega
    · have d0 : ((E - 52) - place).toNat = mag.log2 - 52 := by omega
      have d1 : (place - (E - 52)).toNat = 0 := by omega
      rw [d0, d1, Nat.shiftLeft_zero]
      obtain ⟨b, hb⟩ := cutE .even false mag (mag.log2 - 52)
      rw [hb, show min (mag.log2 - 52) (mag.log2 + 2) = mag.log2 - 52 by omega]
      have e2 : 4503599627370496 * 2 ^ (mag.log2 - 52) = 2 ^ mag.log2 := by rw [← pow2_52, ← Nat.pow_add, show 52 + (mag.log2 - 52) = mag.log2 by omega]
      have e3 : 9007199254740992 * 2 ^ (mag.log2 - 52) = 2 ^ (mag.log2 + 1) := by
        have h9 : (9007199254740992:Nat) * 2 ^ (mag.log2 - 52) = 2 * (4503599627370496 * 2 ^ (mag.log2 - 52)) := by omega
        rw [h9, e2, Nat.pow_succ, Nat.mul_comm]
      have hp : 0 < 2 ^ (mag.log2 - 52) := Nat.two_pow_pos _
      have h3 : 4503599627370496 ≤ mag / 2 ^ (mag.log2 - 52) := (Nat.le_div_iff_mul_le hp).2 (by omega)
      have h4 : mag / 2 ^ (mag.log2 - 52) < 9007199254740992 := (Nat.div_lt_iff_lt_mul hp).2 (by omega)
      have := btn b
      omega
  obtain ⟨T, hT⟩ : ∃ T, T = (E - 52 - (-1074)).toNat := ⟨_, rfl⟩
  have hn : Ieee.double.nearest false mag place = T * 4503599627370496 + kept := by
    have e4 : Ieee.double.binade = 4503599627370496 := by decide
    have e5 : Ieee.double.infRung = 9218868437227405312 := by decide
    have e6 : Ieee.double.leastPlace = -1074 := by decide
    have e7 : Ieee.double.fractionBits = 52 := rfl
    unfold Format.nearest
    rw [if_neg h0]
    simp only [e4, e5, e6, e7, e1, hk, ← hT, Format.word]
    rw [if_neg (by simp), Nat.min_eq_left (by omega)]
  rw [hn]
  have hr : ∀ rung, 4503599627370496 ≤ rung → rung < 9218868437227405312 → Ieee.double.read rung = .number false (4503599627370496 + rung % 4503599627370496) (-1074 + ((rung / 4503599627370496 - 1 : Nat) : Int)) := by
    intro rung a1 a2
    have e3 : Ieee.double.signWeight = 9223372036854775808 := by decide
    have e4 : Ieee.double.binade = 4503599627370496 := by decide
    have e5 : Ieee.double.infRung = 9218868437227405312 := by decide
    have e6 : Ieee.double.leastPlace = -1074 := by decide
    unfold Format.read
    simp only [e3, e4, e5, e6]
    rw [show rung / 9223372036854775808 = 0 by omega, show rung % 9223372036854775808 = rung by omega, if_neg (by omega), if_pos a2]
    rfl
  refine ⟨_, _, hr _ (by omega) (by omega), by omega, by omega, ?_⟩
  have h5 : (T * 4503599627370496 + kept) / 4503599627370496 = T + kept / 4503599627370496 := by omega
  rw [h5]
  rcases (show kept / 4503599627370496 = 1 ∨ kept / 4503599627370496 = 2 by omega) with e | e <;> rw [e] <;> omega
theorem log2_of {m k : Nat} (h1 : 2^k ≤ m) (h2 : m < 2^(k+1)) : m.log2 = k := by
  have h0 : m ≠ 0 := by have := Nat.two_pow_pos k; omega
  have a := (Nat.le_log2 h0).2 h1
  have b := (Nat.log2_lt h0).2 h2
  omega
theorem log2_52 {m : Nat} (h1 : 4503599627370496 ≤ m) (h2 : m < 9007199254740992) : m.log2 = 52 := log2_of (by simpa using h1) (by simpa using h2)
/-- the quotient of two such numbers, brought into the format and read again -/
theorem quo_read {m n : Nat} {i j : Int} (a1 : 4503599627370496 ≤ m) (a2 : m < 9007199254740992) (b1 : 4503599627370496 ≤ n) (b2 : n < 9007199254740992) (h1 : -900 ≤ i - j) (h2 : i - j ≤ 900) :
    ∃ w, ((Datum.number false m i).quotient 54 (.number false n j)).map Ieee.double.write = some w ∧ ∃ m' p, Ieee.double.read w = .number false m' p ∧ 4503599627370496 ≤ m' ∧ m' < 9007199254740992 ∧ i - j - 53 ≤ p ∧ p ≤ i - j - 51 := by
  have hn0 : n ≠ 0 := by omega
  simp only [Datum.quotient, if_neg hn0, log2_52 a1 a2, log2_52 b1 b2, show 54 + 52 - 52 = 54 by rfl, Option.map_some]
  refine ⟨_, rfl, ?_⟩
  have e0 : m <<< 54 = m * 18014398509481984 := by rw [Nat.shiftLeft_eq]
  rw [e0]
  obtain ⟨q, hq⟩ : ∃ q, q = m * 18014398509481984 / n := ⟨_, rfl⟩
  have q1 : 9007199254740992 ≤ q := by rw [hq]; exact (Nat.le_div_iff_mul_le (by omega)).2 (by omega)
  have q2 : q < 36028797018963968 := by rw [hq]; exact (Nat.div_lt_iff_lt_mul (by omega)).2 (by omega)
  rw [← hq]
  have hb := btn (m * 18014398509481984 % n != 0)
  obtain ⟨Q, hQ⟩ : ∃ Q, Q = 2 * q + (m * 18014398509481984 % n != 0).toNat := ⟨_, rfl⟩
  rw [← hQ]
  have l1 : 54 ≤ Q.log2 := (Nat.le_log2 (by omega)).2 (by omega)
  have l2 : Q.log2 < 56 := (Nat.log2_lt (by omega)).2 (by omega)
  obtain ⟨m', p, r1, r2, r3, r4⟩ := near_read (mag := Q) (place := i - j - ((54 : Nat) : Int) - 1) (by omega) rfl (by omega) (by omega)
  refine ⟨m', p, ?_, r2, r3, by omega, by omega⟩
  rw [← r1]; simp [Format.write]
theorem ceil_toInt {m : Nat} {p : Int} (a1 : 4503599627370496 ≤ m) (a2 : m < 9007199254740992) (h1 : -100 ≤ p) (h2 : p ≤ -30) :
    ∃ c : Nat, ∃ k : Nat, (Datum.number false m p).integral .up = .number false c 0 ∧ c ≠ 0 ∧ (Ieee.double.read (Ieee.double.write (.number false c 0))).toInt .zero = some (k : Int) ∧ k ≤ 33554432 := by
  have l0 := log2_52 a1 a2
  obtain ⟨c, hc⟩ : ∃ c, c = Toward.up.cut false (m <<< p.toNat) (-p).toNat := ⟨_, rfl⟩
  have c1 : c ≠ 0 ∧ c ≤ 8388609 := by
    rw [show p.toNat = 0 by omega, Nat.shiftLeft_zero] at hc
    have hg : ∃ g, min (-p).toNat (m.log2 + 2) = g ∧ 30 ≤ g ∧ g ≤ 54 := ⟨_, rfl, by omega, by omega⟩
    obtain ⟨g, hg1, hg2, hg3⟩ := hg
    rw [cutU, hg1] at hc
    have hpg : 1073741824 ≤ 2 ^ g := Nat.le_trans (by decide) (Nat.pow_le_pow_right (n := 2) (by decide) hg2 : 2 ^ 30 ≤ 2 ^ g)
    have hlow : m / 2 ^ g ≤ 8388608 := by
      refine Nat.le_trans (Nat.div_le_div_left hpg (by decide)) ?_
      omega
    have hb := btn (m % 2 ^ g != 0)
    generalize 2 ^ g = G at *
    refine ⟨fun e => ?_, by omega⟩
    rw [e] at hc
    obtain ⟨e1, e2⟩ := Nat.add_eq_zero_iff.1 hc.symm
    have e3 : m % G = 0 := by
      cases hx : (m % G != 0)
      · simpa using hx
      · rw [hx] at e2; cases e2
    have := Nat.div_add_mod m G
    rw [e1, e3] at this; omega
  obtain ⟨m2, p2, r1, r2, r3, r4⟩ := near_read (mag := c) (place := 0) c1.1 rfl (by omega) (by
    have : c.log2 < 24 := (Nat.log2_lt c1.1).2 (by omega)
    omega)
  have hl : c.log2 < 24 := (Nat.log2_lt c1.1).2 (by omega)
  have l2 := log2_52 r2 r3
  refine ⟨c, m2 / 2 ^ (min (-p2).toNat (m2.log2 + 2)), by simp only [Datum.integral]; rw [← hc], c1.1, ?_, ?_⟩
  · have e1 : Ieee.double.write (.number false c 0) = Ieee.double.nearest false c 0 := rfl
    rw [e1, r1]
    simp only [Datum.toInt, Datum.integral]
    rw [show p2.toNat = 0 by omega, Nat.shiftLeft_zero]
    unfold Toward.cut
    rw [Nat.one_shiftLeft]
    simp [signed]
  · have hg : ∃ g, min (-p2).toNat (m2.log2 + 2) = g ∧ 28 ≤ g := ⟨_, rfl, by omega⟩
    obtain ⟨g, hg1, hg2⟩ := hg
    rw [hg1]
    have hpg : 268435456 ≤ 2 ^ g := Nat.le_trans (by decide) (Nat.pow_le_pow_right (n := 2) (by decide) hg2 : 2 ^ 28 ≤ 2 ^ g)
    refine Nat.le_trans (Nat.div_le_div_left hpg (by decide)) ?_
    omega
/-- the whole way: two whole numbers, their quotient's ceiling -/
theorem ceil_way {d s : Nat} (d1 : 1 ≤ d) (d2 : d ≤ 65536) (s1 : 1 ≤ s) (s2 : s ≤ 65536) :
    ∃ q c : Nat, ∃ k : Nat, Ieee.double.div (FloatKind.f64.nearest (d : Int)) (FloatKind.f64.nearest (s : Int)) = some q ∧
      (∃ m p, FloatKind.f64.decode q = .number false m p ∧ FloatKind.f64.encode ((Datum.number false m p).integral .up) = c) ∧
      (FloatKind.f64.decode c).toInt .zero = some (k : Int) ∧ k ≤ 33554432 := by
  have hnear : ∀ n : Nat, FloatKind.f64.nearest (n : Int) = Ieee.double.nearest false n 0 := fun n => by
    unfold FloatKind.nearest FloatKind.encode FloatKind.format Format.write
    rw [show decide ((n : Int) < 0) = false from decide_eq_false (by omega)]
    simp
  have ld : d.log2 < 17 := (Nat.log2_lt (by omega)).2 (by omega)
  have ls : s.log2 < 17 := (Nat.log2_lt (by omega)).2 (by omega)
  obtain ⟨m, i, r1, r2, r3, r4⟩ := near_read (mag := d) (place := 0) (by omega) rfl (by omega) (by omega)
  obtain ⟨n, j, t1, t2, t3, t4⟩ := near_read (mag := s) (place := 0) (by omega) rfl (by omega) (by omega)
  obtain ⟨w, w1, m', p, v1, v2, v3, v4, v5⟩ := quo_read (i := i) (j := j) r2 r3 t2 t3 (by omega) (by omega)
  obtain ⟨c, k, x1, x2, x3, x4⟩ := ceil_toInt (m := m') (p := p) v2 v3 (by omega) (by omega)
  refine ⟨w, Ieee.double.write (.number false c 0), k, ?_, ⟨m', p, v1, by rw [x1]; rfl⟩, x3, x4⟩
  rw [hnear, hnear]
  unfold Format.div
  rw [r1, t1]; exact w1
end
/-! numbers that rise or fall by steps -/
def rsL (a s : Int) (k : Nat) : List Int := (List.range k).map fun i : Nat => a + (i : Int) * s
theorem rsL_succ (a s : Int) (k : Nat) : rsL a s k ++ [a + (k : Int) * s] = rsL a s (k + 1) := by unfold rsL; rw [List.range_succ, List.map_append]; rfl
theorem rsL_len (a s : Int) (k : Nat) : (rsL a s k).length = k := by simp [rsL]
theorem rsL_at {a s : Int} {k i : Nat} {x : Int} (h : (rsL a s k)[i]? = some x) : x = a + (i : Int) * s := by
  unfold rsL at h
  rw [List.getElem?_map] at h
  have hi : i < k := by
    cases hr : (List.range k)[i]? with
    | none => rw [hr] at h; cases h
    | some y => have := (List.getElem?_eq_some_iff.1 hr).1; simpa using this
  rw [List.getElem?_range hi] at h; simpa using h.symm
theorem rsL_pre (a s : Int) {k n : Nat} (h : k ≤ n) : rsL a s k <+: rsL a s n := by
  obtain ⟨m, rfl⟩ : ∃ m, n = k + m := ⟨n - k, by omega⟩
  unfold rsL; rw [List.range_add, List.map_append]; exact List.prefix_append _ _
def ceilN (d s : Int) : Nat := ((d + s - 1) / s).toNat
def stN (a e s : Int) : Nat := if 0 < s then ceilN (e - a) s else if s < 0 then ceilN (a - e) (-s) else 0
def stL (a e s : Int) : List Int := rsL a s (stN a e s)
theorem ceilN_uniq {d s : Int} {k : Nat} (hs : 0 < s) (h1 : d ≤ (k : Int) * s) (h2 : k = 0 ∨ (k : Int) * s - s < d) : ceilN d s = k := by
  unfold ceilN
  rcases h2 with rfl | h2
  · have h3 : d ≤ 0 := by simpa using h1
    have : (d + s - 1) / s ≤ 0 := by
      have h4 : (d + s - 1) / s < 1 := Int.ediv_lt_of_lt_mul hs (by omega)
      omega
    omega
  · have e : (d + s - 1) / s = (k : Int) := by
      have ha : (k : Int) ≤ (d + s - 1) / s := (Int.le_ediv_iff_mul_le hs).2 (by omega)
      have hb : (d + s - 1) / s < (k : Int) + 1 := Int.ediv_lt_of_lt_mul hs (by rw [Int.add_mul]; omega)
      omega
    rw [e]; rfl
theorem ceilN_lt {d s : Int} {k : Nat} (hs : 0 < s) (h : (k : Int) * s < d) : k < ceilN d s := by
  unfold ceilN
  have ha : (k : Int) + 1 ≤ (d + s - 1) / s := (Int.le_ediv_iff_mul_le hs).2 (by rw [Int.add_mul]; omega)
  omega
theorem st_up {a e s : Int} {k : Nat} (hs : 0 < s) (h1 : e ≤ a + (k : Int) * s) (h2 : k = 0 ∨ a + (k : Int) * s - s < e) : stN a e s = k := by
  unfold stN; rw [if_pos hs]; exact ceilN_uniq hs (by omega) (by omega)
theorem st_dn {a e s : Int} {k : Nat} (hs : s < 0) (h1 : a + (k : Int) * s ≤ e) (h2 : k = 0 ∨ e < a + (k : Int) * s - s) : stN a e s = k := by
  have hm : (k : Int) * -s = -((k : Int) * s) := Int.mul_neg ..
  unfold stN; rw [if_neg (by omega), if_pos hs]; exact ceilN_uniq (by omega) (by omega) (by omega)
theorem st_none {a e s : Int} (h : s = 0 ∨ a = e ∨ (0 < s ∧ e ≤ a) ∨ (s < 0 ∧ a ≤ e)) : stL a e s = [] := by
  have h0 : stN a e s = 0 := by
    by_cases h1 : 0 < s
    · exact st_up (k := 0) h1 (by simp; omega) (.inl rfl)
    · by_cases h2 : s < 0
      · exact st_dn (k := 0) h2 (by simp; omega) (.inl rfl)
      · unfold stN; rw [if_neg h1, if_neg h2]
  unfold stL; rw [h0]; rfl
theorem stL_up {a e s : Int} {k : Nat} (hs : 0 < s) (h1 : e ≤ a + (k : Int) * s) (h2 : k = 0 ∨ a + (k : Int) * s - s < e) : stL a e s = rsL a s k := by unfold stL; rw [st_up hs h1 h2]
theorem stL_dn {a e s : Int} {k : Nat} (hs : s < 0) (h1 : a + (k : Int) * s ≤ e) (h2 : k = 0 ∨ e < a + (k : Int) * s - s) : stL a e s = rsL a s k := by unfold stL; rw [st_dn hs h1 h2]
theorem st_tell_up {a e s : Int} {k : Nat} (hs : 0 < s) (h : a + (k : Int) * s < e) : rsL a s k ++ [a + (k : Int) * s] <+: stL a e s := by
  rw [rsL_succ]; refine rsL_pre a s ?_
  unfold stN; rw [if_pos hs]; exact ceilN_lt hs (by omega)
theorem st_tell_dn {a e s : Int} {k : Nat} (hs : s < 0) (h : e < a + (k : Int) * s) : rsL a s k ++ [a + (k : Int) * s] <+: stL a e s := by
  have hm : (k : Int) * -s = -((k : Int) * s) := Int.mul_neg ..
  rw [rsL_succ]; refine rsL_pre a s ?_
  unfold stN; rw [if_neg (by omega), if_pos hs]; exact ceilN_lt (by omega) (by omega)
theorem rs_next (a s : Int) (k : Nat) : a + ((k + 1 : Nat) : Int) * s = a + (k : Int) * s + s := by rw [Int.natCast_add, Int.add_mul]; omega
theorem st_len {a e s : Int} (ha : -100000 ≤ a ∧ a ≤ 100000) (he : -100000 ≤ e ∧ e ≤ 100000) : (stL a e s).length ≤ 200000 := by
  unfold stL; rw [rsL_len]
  unfold stN ceilN
  split
  · rename_i h
    have : (e - a + s - 1) / s < 200001 := Int.ediv_lt_of_lt_mul h (by omega)
    omega
  split
  · rename_i h
    have : (a - e + -s - 1) / -s < 200001 := Int.ediv_lt_of_lt_mul (by omega) (by omega)
    omega
  · omega
section
variable {P : Program} {a : Act} {w : World} {n : Nat} {ds : List Deferred} {l : List (Nat × Value)} {d : Nat} {ty t t' : TypeId} {pos : String} {af : Array Edge} {gd : Option (Nat × Bool)} {x y : Operand} {κ : IntKind} {i : Int}
theorem R_convIF {f : FloatKind} (E : Env a n ds l) (hx : opv l x = some (.int κ i)) (hs : P.underlying t = some (.int κ)) (ht : P.underlying t' = some (.float f)) :
    (execOp a.eval ⟨some d, .convert t t' x, ty, pos, af, gd⟩).run P w = .ok (.value (.float f (f.nearest i))) w := by
  simp [execOp, E.eval hx, Go.convert, run_underlying hs, run_underlying ht, Conv.intToFloat]
theorem R_convFI {f : FloatKind} {b : Nat} {k : Int} (E : Env a n ds l) (hx : opv l x = some (.float f b)) (hs : P.underlying t = some (.float f)) (ht : P.underlying t' = some (.int κ)) (hb : (f.decode b).toInt .zero = some k) (hr : κ.min ≤ k ∧ k ≤ κ.max) :
    (execOp a.eval ⟨some d, .convert t t' x, ty, pos, af, gd⟩).run P w = .ok (.value (.int κ k)) w := by
  simp [execOp, E.eval hx, Go.convert, run_underlying hs, run_underlying ht, Conv.floatToInt, hb, hr]
theorem R_quoF {f : FloatKind} {b c q : Nat} (E : Env a n ds l) (hx : opv l x = some (.float f b)) (hy : opv l y = some (.float f c)) (h : f.format.div b c = some q) :
    (execOp a.eval ⟨some d, .binOp .quo t x y t', ty, pos, af, gd⟩).run P w = .ok (.value (.float f q)) w := by
  simp [execOp, E.eval hx, E.eval hy, eqGuard, binOp, Op.floatArith, h]
end
theorem CallV.extern {P : Program} {g : FuncId} {first cap : Array Value} {args : List Value} {w : World} {R : Value → World → Prop} {v : Value}
    (hc : (callFunc g (first ++ args.toArray ++ cap)).run P w = .ok (.value v) w) (hR : R v w) : CallV P (.func (.func g) first cap) args w R := by
  intro r o c f a next Q h1 h2 h3 h4 h5
  refine ⟨fun _ _ => trivial, ?_⟩
  rw [semAt_nodefer (by rw [h1]; rfl)]
  have e4 : c.args.map a.eval = args.toArray := by rw [← h4, ← Array.toList_map, Array.toArray_toList]
  have : (execOp a.eval o).run P w = .ok (.value v) w := by
    simp only [execOp, h1, resolve, h2, h3, e4, Deferred.ofValue]
    rw [Array.append_assoc] at hc
    simp [invoke, hc]
  rw [this]; exact h5 v w hR
theorem run_archCeil {P : Program} {b : Nat} {m : Nat} {p : Int} (h : FloatKind.f64.decode b = .number false m p) (w : World) :
    (Extern.MathFloor.toIntegral "math.archCeil" .up #[.float .f64 b]).run P w = .ok (.float .f64 (FloatKind.f64.encode ((Ieee.Datum.number false m p).integral .up))) w := by
  have e : Extern.MathFloor.toIntegral "math.archCeil" .up #[.float .f64 b] = Extern.MathFloor.toIntegral.match_1 (fun _ => Sem Value) (FloatKind.f64.decode b) _ (fun d => pure (.float .f64 (FloatKind.f64.encode (d.integral .up)))) := rfl
  rw [e, h]; rfl
theorem rs_k_up {s : Int} (h : 1 ≤ s) (k : Nat) : (k : Int) ≤ (k : Int) * s := by
  have := Int.mul_le_mul_of_nonneg_left h (Int.natCast_nonneg k); rwa [Int.mul_one] at this
theorem rs_k_dn {s : Int} (h : s ≤ -1) (k : Nat) : (k : Int) ≤ -((k : Int) * s) := by
  have := rs_k_up (s := -s) (by omega) k; rwa [Int.mul_neg] at this
theorem st_zero {a e s : Int} {k : Nat} (hs : s = 0) (hk : k = 0) : stL a e s = rsL a s k := by subst hk; exact st_none (.inl hs)
theorem rs_mul (s : Int) (k : Nat) (hk : k ≤ 200000) (hs : -128 ≤ s ∧ s ≤ 127) : -25600000 ≤ (k : Int) * s ∧ (k : Int) * s ≤ 25600000 := by
  have h1 := Int.mul_le_mul_of_nonneg_left hs.1 (Int.natCast_nonneg k)
  have h2 := Int.mul_le_mul_of_nonneg_left hs.2 (Int.natCast_nonneg k)
  omega
theorem stL_at {a e s : Int} {i : Nat} {x : Int} (h : (stL a e s)[i]? = some x) : x = a + (i : Int) * s := rsL_at h

set_option maxRecDepth 100000 in
set_option maxHeartbeats 4000000 in
theorem math_archCeil {M : Hp} {y0 m1 : Nat} {p1 : Int} (hd : FloatKind.f64.decode y0 = .number false m1 p1) :
    Pu Try.prog (.func (.func 15) #[] #[]) M [.float .f64 y0] (fun r M' => r = .float .f64 (FloatKind.f64.encode ((Ieee.Datum.number false m1 p1).integral .up))) :=
  fun w M1 H hM S => CallV.extern (v := .float .f64 (FloatKind.f64.encode ((Ieee.Datum.number false m1 p1).integral .up))) ((run_callFunc_extern Try.func15 (by kernel_rfl) (by kernel_rfl) (by kernel_rfl) (e := Extern.MathFloor.toIntegral "math.archCeil" .up) (by kernel_rfl) _ w).trans (by rw [show (#[] ++ #[Value.float .f64 y0] ++ #[] : Array Value) = #[.float .f64 y0] from rfl, run_archCeil hd]; rfl)) ⟨M1, Hp.le.refl _, rfl, S⟩

set_option maxRecDepth 100000 in
set_option maxHeartbeats 4000000 in
theorem math_Ceil {M : Hp} {y0 m1 : Nat} {p1 : Int} (hd : FloatKind.f64.decode y0 = .number false m1 p1) :
    Pu Try.prog (.func (.func 12) #[] #[]) M [.float .f64 y0] (fun r M' => r = .float .f64 (FloatKind.f64.encode ((Ieee.Datum.number false m1 p1).integral .up))) := by
  refine Pu_enter Try.func12 rfl Try.ntmps12 rfl Try.call12 ?_
  intro a w M1 H hM1 S E
  refine WP_seq ?_
  refine WP_region ?_
  refine S_v E rfl (R_assign E rfl) rfl ?_
  clear E a; intro a E
  refine WL_nil ?_
  refine T_n ?_
  refine WP_seq ?_
  refine WP_condT E rfl rfl ?_
  refine WP_seq ?_
  refine WP_region ?_
  refine S_v E rfl (R_move E rfl) rfl ?_
  clear E a; intro a E
  refine S_x (X_pu E S rfl rfl rfl (math_archCeil (m1 := m1) (p1 := p1) (by assumption)) (Hp.le.refl _) ?_)
  clear E a S; rintro a _ w M_1 hM_1 rfl S E
  refine S_v E rfl (R_assign E rfl) rfl ?_
  clear E a; intro a E
  refine WL_nil ?_
  refine T_n ?_
  refine WP_ret ?_
  refine T_r ?_
  exact F_ret1 E Try.results12 rfl ⟨_, rfl, M_1, hM_1, rfl, S⟩

set_option maxRecDepth 100000 in
set_option maxHeartbeats 4000000 in
theorem lo_RangeWithSteps1 {M : Hp} {x0 x1 : Int} (hd : 1 ≤ x0 ∧ x0 ≤ 65536) (hs : 1 ≤ x1 ∧ x1 ≤ 65536) :
    Pu Try.prog (.func (.func 11) #[] #[]) M [.int .i64 x0, .int .i64 x1] (fun r M' => ∃ k : Nat, r = .int .i64 (k : Int) ∧ k ≤ 33554432) := by
  refine Pu_enter Try.func11 rfl Try.ntmps11 rfl Try.call11 ?_
  intro a w M1 H hM1 S E
  obtain ⟨d, rfl⟩ := Int.eq_ofNat_of_zero_le (show 0 ≤ x0 by omega)
  obtain ⟨s, rfl⟩ := Int.eq_ofNat_of_zero_le (show 0 ≤ x1 by omega)
  obtain ⟨q, cc, kk, hw1, ⟨m1, p1, hw2, hw3⟩, hw4, hw5⟩ := ceil_way (d := d) (s := s) (by omega) (by omega) (by omega) (by omega)
  rw [← hw3] at hw4
  refine WP_seq ?_
  refine WP_region ?_
  refine S_v E rfl (R_assign E rfl) rfl ?_
  clear E a; intro a E
  refine WL_nil ?_
  refine T_n ?_
  refine WP_seq ?_
  refine WP_region ?_
  refine S_v E rfl (R_move E rfl) rfl ?_
  clear E a; intro a E
  refine S_v E rfl (R_convIF E rfl Try.underlying3 Try.underlying34) rfl ?_
  clear E a; intro a E
  refine S_v E rfl (R_move E rfl) rfl ?_
  clear E a; intro a E
  refine S_v E rfl (R_convIF E rfl Try.underlying3 Try.underlying34) rfl ?_
  clear E a; intro a E
  refine S_v E rfl (R_quoF (q := q) E rfl rfl hw1) rfl ?_
  clear E a; intro a E
  refine S_x (X_pu E S rfl rfl rfl (math_Ceil (m1 := m1) (p1 := p1) (by assumption)) (Hp.le.refl _) ?_)
  clear E a S; rintro a _ w M_1 hM_1 rfl S E
  refine S_v E rfl (R_convFI (k := ((kk : Nat) : Int)) E rfl Try.underlying34 Try.underlying3 hw4 (by simp only [IntKind.min, IntKind.max, IntKind.signed, IntKind.bits]; simp; omega)) rfl ?_
  clear E a; intro a E
  refine S_v E rfl (R_assign E rfl) rfl ?_
  clear E a; intro a E
  refine WL_nil ?_
  refine T_n ?_
  refine WP_ret ?_
  exact F_ret1 E Try.results11 rfl ⟨_, rfl, M_1, hM_1, ⟨kk, rfl, by omega⟩, S⟩

set_option maxRecDepth 100000 in
set_option maxHeartbeats 4000000 in
theorem lo_RangeWithSteps {M : Hp} {x0 x1 x2 : Int} (g0 : -32768 ≤ x0 ∧ x0 ≤ 32767) (g1 : -32768 ≤ x1 ∧ x1 ≤ 32767) (g2 : -128 ≤ x2 ∧ x2 ≤ 127) :
    Pu Try.prog (.func (.func 8) #[] #[]) M [.int .i64 x0, .int .i64 x1, .int .i64 x2] (fun r M' => RdI M' r (stL x0 x1 x2)) := by
  refine Pu_enter Try.func8 rfl Try.ntmps8 rfl Try.call8 ?_
  intro a w M1 H hM1 S E
  refine WP_seq ?_
  refine WP_region ?_
  refine S_v E rfl (R_assign E rfl) rfl ?_
  clear E a; intro a E
  refine WL_nil ?_
  refine T_n ?_
  refine WP_seq ?_
  refine WP_seq ?_
  refine WP_region ?_
  refine S_v E rfl (R_move E rfl) rfl ?_
  clear E a; intro a E
  refine S_v E rfl (R_move E rfl) rfl ?_
  clear E a; intro a E
  refine S_v E rfl (R_eql E rfl rfl) rfl ?_
  clear E a; intro a E
  refine S_v E rfl (R_move E rfl) rfl ?_
  clear E a; intro a E
  refine split_bool (decide (x0 = x1)) (fun hc_1 => ?_) (fun hc_1 => ?_)
  · replace E := E.val (t := 14) rfl hc_1
    replace E := E.val (t := 15) rfl hc_1
    replace hc_1 := of_decide_eq_true hc_1
    refine WL_guard_no E rfl rfl rfl rfl fun a E => ?_
    refine WL_guard_no E rfl rfl rfl rfl fun a E => ?_
    refine S_v E rfl (R_pickT E rfl rfl) rfl ?_
    clear E a; intro a E
    refine WL_nil ?_
    refine T_n ?_
    refine WP_condT E rfl rfl ?_
    refine WP_seq ?_
    refine WP_region ?_
    refine S_x (X_buildI (ys := []) E S rfl T24 rfl rfl rfl ?_)
    clear E a S; rintro a w v_2 E S
    refine S_v E rfl (R_assign E rfl) rfl ?_
    clear E a; intro a E
    refine WL_nil ?_
    refine T_n ?_
    refine WP_ret ?_
    refine T_r ?_
    have S0 := S; clear S
    obtain ⟨M_3, hM_3, hz_4, S⟩ := S0.freezeI (by (first | omega | (simp; done) | (rw [rsL_len]; omega)))
    clear S0
    exact F_ret1 E Try.results8 rfl ⟨_, rfl, M_3, hM_3, (by rw [show (stL x0 x1 x2) = ([] : List Int) from by (first | exact st_none (by omega) | exact stL_up (by omega) (by omega) (by omega) | exact stL_dn (by omega) (by omega) (by omega) | exact (st_none (by omega)).symm | exact (stL_up (by omega) (by omega) (by omega)).symm | exact (stL_dn (by omega) (by omega) (by omega)).symm)]; exact hz_4), S⟩
  · replace E := E.val (t := 14) rfl hc_1
    replace E := E.val (t := 15) rfl hc_1
    replace hc_1 := of_decide_eq_false hc_1
    refine WL_guard_yes E rfl rfl ?_
    refine S_v E rfl (R_move E rfl) rfl ?_
    clear E a; intro a E
    refine WL_guard_yes E rfl rfl ?_
    refine S_v E rfl (R_eql E rfl rfl) rfl ?_
    clear E a; intro a E
    refine S_v E rfl (R_pickF E rfl rfl) rfl ?_
    clear E a; intro a E
    refine WL_nil ?_
    refine T_n ?_
    refine WP_cond E rfl (fun hc_5 => ?_) (fun hc_5 => ?_)
    · replace hc_5 := of_decide_eq_true hc_5
      refine WP_seq ?_
      refine WP_region ?_
      refine S_x (X_buildI (ys := []) E S rfl T24 rfl rfl rfl ?_)
      clear E a S; rintro a w v_6 E S
      refine S_v E rfl (R_assign E rfl) rfl ?_
      clear E a; intro a E
      refine WL_nil ?_
      refine T_n ?_
      refine WP_ret ?_
      refine T_r ?_
      have S0 := S; clear S
      obtain ⟨M_7, hM_7, hz_8, S⟩ := S0.freezeI (by (first | omega | (simp; done) | (rw [rsL_len]; omega)))
      clear S0
      exact F_ret1 E Try.results8 rfl ⟨_, rfl, M_7, hM_7, (by rw [show (stL x0 x1 x2) = ([] : List Int) from by (first | exact st_none (by omega) | exact stL_up (by omega) (by omega) (by omega) | exact stL_dn (by omega) (by omega) (by omega) | exact (st_none (by omega)).symm | exact (stL_up (by omega) (by omega) (by omega)).symm | exact (stL_dn (by omega) (by omega) (by omega)).symm)]; exact hz_8), S⟩
    · replace hc_5 := of_decide_eq_false hc_5
      refine WP_skip ?_
      refine T_n ?_
      refine WP_seq ?_
      refine WP_region ?_
      refine S_v E rfl (R_assign E rfl) rfl ?_
      clear E a; intro a E
      refine WL_nil ?_
      refine T_n ?_
      refine WP_seq ?_
      refine WP_seq ?_
      refine WP_region ?_
      refine S_v E rfl (R_move E rfl) rfl ?_
      clear E a; intro a E
      refine S_v E rfl (R_move E rfl) rfl ?_
      clear E a; intro a E
      refine S_v E rfl (R_lss E rfl rfl) rfl ?_
      clear E a; intro a E
      refine WL_nil ?_
      refine T_n ?_
      refine WP_cond E rfl (fun hc_9 => ?_) (fun hc_9 => ?_)
      · replace hc_9 := of_decide_eq_true hc_9
        refine WP_seq ?_
        refine WP_seq ?_
        refine WP_region ?_
        refine S_v E rfl (R_move E rfl) rfl ?_
        clear E a; intro a E
        refine S_v E rfl (R_lss E rfl rfl) rfl ?_
        clear E a; intro a E
        refine WL_nil ?_
        refine T_n ?_
        refine WP_cond E rfl (fun hc_10 => ?_) (fun hc_10 => ?_)
        · replace hc_10 := of_decide_eq_true hc_10
          refine WP_seq ?_
          refine WP_region ?_
          refine S_x (X_buildI (ys := []) E S rfl T24 rfl rfl rfl ?_)
          clear E a S; rintro a w v_11 E S
          refine S_v E rfl (R_assign E rfl) rfl ?_
          clear E a; intro a E
          refine WL_nil ?_
          refine T_n ?_
          refine WP_ret ?_
          refine T_r ?_
          refine T_r ?_
          have S0 := S; clear S
          obtain ⟨M_12, hM_12, hz_13, S⟩ := S0.freezeI (by (first | omega | (simp; done) | (rw [rsL_len]; omega)))
          clear S0
          exact F_ret1 E Try.results8 rfl ⟨_, rfl, M_12, hM_12, (by rw [show (stL x0 x1 x2) = ([] : List Int) from by (first | exact st_none (by omega) | exact stL_up (by omega) (by omega) (by omega) | exact stL_dn (by omega) (by omega) (by omega) | exact (st_none (by omega)).symm | exact (stL_up (by omega) (by omega) (by omega)).symm | exact (stL_dn (by omega) (by omega) (by omega)).symm)]; exact hz_13), S⟩
        · replace hc_10 := of_decide_eq_false hc_10
          refine WP_skip ?_
          refine T_n ?_
          refine WP_seq ?_
          refine WP_region ?_
          refine S_v E rfl (R_move E rfl) rfl ?_
          clear E a; intro a E
          refine S_v E rfl (R_move E rfl) rfl ?_
          clear E a; intro a E
          refine S_v E rfl (R_move E rfl) rfl ?_
          clear E a; intro a E
          refine S_v E rfl (R_subx (m := x1 - x0) E rfl rfl (by omega) (by omega)) rfl ?_
          clear E a; intro a E
          refine S_v E rfl (R_move E rfl) rfl ?_
          clear E a; intro a E
          refine S_x (X_pu E S rfl rfl rfl (lo_RangeWithSteps1 (by omega) (by omega)) (Hp.le.refl _) ?_)
          clear E a S; rintro a _ w M_14 hM_14 ⟨kk_15, rfl, hkk_15⟩ S E
          refine S_x (X_make0 (k := kk_15) E S rfl rfl rfl T24 rfl (by omega) (by omega) (by omega) ?_)
          clear E a S; rintro a w v_16 E S
          replace S := S.made0
          refine S_v E rfl (R_assign E rfl) rfl ?_
          clear E a; intro a E
          refine WL_nil ?_
          refine T_n ?_
          refine WP_seq ?_
          refine WP_seq ?_
          refine WP_region ?_
          refine S_v E rfl (R_move E rfl) rfl ?_
          clear E a; intro a E
          refine S_v E rfl (R_assign E rfl) rfl ?_
          clear E a; intro a E
          refine WL_nil ?_
          refine T_n ?_
          refine WP_block ?_
          replace S := S.re1 (l' := rsL x0 x2 0) (by first | rfl | exact rsL_succ _ _ _)
          refine WP_loop (γ := Nat) (fun (k : Nat) a w => ∃ (M_17 : Hp) (u8 : Value), Hp.le M_14 M_17 ∧ St w M_17 (OwnI 3 u8 (rsL x0 x2 k) :: H) ∧ Env a 68 [] [(1, .int .i64 x1), (2, .int .i64 x2), (8, u8), (9, .int .i64 (x0 + (k : Int) * x2))] ∧ (k = 0 ∨ x0 + (k : Int) * x2 - x2 < x1)) (fun k => (x1 - (x0 + (k : Int) * x2)).toNat) 0 ⟨M_14, _, Hp.le.refl _, S, E.keep ⟨rfl, rfl, rfl, look_int (i := x0) rfl (by (simp)), trivial⟩, (by left; rfl)⟩ ?_
          try clear E
          try clear S
          try clear a
          try clear w
          rintro k a w ⟨M_17, u8, hM_17, S, E, hL0_0⟩
          have hkx := rs_k_up (s := x2) (by omega) k
          refine WP_seq ?_
          refine WP_seq ?_
          refine WP_region ?_
          refine S_v E rfl (R_move E rfl) rfl ?_
          clear E a; intro a E
          refine S_v E rfl (R_move E rfl) rfl ?_
          clear E a; intro a E
          refine S_v E rfl (R_lss E rfl rfl) rfl ?_
          clear E a; intro a E
          refine WL_nil ?_
          refine T_n ?_
          refine WP_cond E rfl (fun hc_18 => ?_) (fun hc_18 => ?_)
          · replace hc_18 := of_decide_eq_true hc_18
            refine WP_skip ?_
            refine T_n ?_
            refine WP_seq ?_
            refine WP_block ?_
            refine WP_region ?_
            refine S_v E rfl (R_move E rfl) rfl ?_
            clear E a; intro a E
            refine S_v E rfl (R_move E rfl) rfl ?_
            clear E a; intro a E
            refine S_x (X_buildI (ys := [x0 + (k : Int) * x2]) E S rfl T24 rfl rfl rfl ?_)
            clear E a S; rintro a w v_19 E S
            replace S := S.front1
            replace S := S.front1
            refine S_x (X_appendB (xs := rsL x0 x2 k) (ys := [x0 + (k : Int) * x2]) E S rfl rfl rfl T24 (by (simp only [rsL_len, List.length_cons, List.length_nil]; omega)) ?_)
            clear E a S; rintro a w v_20 E S
            refine S_v E rfl (R_assign E rfl) rfl ?_
            clear E a; intro a E
            refine WL_nil ?_
            refine B_n ?_
            refine T_n ?_
            refine WP_region ?_
            refine S_v E rfl (R_move E rfl) rfl ?_
            clear E a; intro a E
            refine S_v E rfl (R_move E rfl) rfl ?_
            clear E a; intro a E
            refine S_v E rfl (R_addx (m := (x0 + (k : Int) * x2) + x2) E rfl rfl (by omega) (by omega)) rfl ?_
            clear E a; intro a E
            refine S_v E rfl (R_assign E rfl) rfl ?_
            clear E a; intro a E
            refine WL_nil ?_
            refine T_n ?_
            replace S := S.re1 (l' := rsL x0 x2 (k + 1)) (by first | rfl | exact rsL_succ _ _ _)
            exact ⟨k + 1, ⟨M_17, _, hM_17, S, E.keep ⟨rfl, rfl, rfl, look_int (i := (x0 + (k : Int) * x2) + x2) rfl (by (have h9 := rs_next x0 x2 k; omega)), trivial⟩, (by right; have h9 := rs_next x0 x2 k; omega)⟩, (by have h9 := rs_next x0 x2 k; omega)⟩
          · replace hc_18 := of_decide_eq_false hc_18
            refine WP_exit ?_
            refine T_x ?_
            refine T_x ?_
            refine B_x ?_
            refine T_n ?_
            refine WP_seq ?_
            refine WP_region ?_
            refine S_v E rfl (R_move E rfl) rfl ?_
            clear E a; intro a E
            refine S_v E rfl (R_assign E rfl) rfl ?_
            clear E a; intro a E
            refine WL_nil ?_
            refine T_n ?_
            refine WP_ret ?_
            refine T_r ?_
            have S0 := S; clear S
            obtain ⟨M_21, hM_21, hz_22, S⟩ := S0.freezeI (by (first | omega | (simp; done) | (rw [rsL_len]; omega)))
            clear S0
            exact F_ret1 E Try.results8 rfl ⟨_, rfl, M_21, (hM_14.trans (hM_17.trans hM_21)), (by rw [show (stL x0 x1 x2) = (rsL x0 x2 k) from by (first | exact st_none (by omega) | exact stL_up (by omega) (by omega) (by omega) | exact stL_dn (by omega) (by omega) (by omega) | exact (st_none (by omega)).symm | exact (stL_up (by omega) (by omega) (by omega)).symm | exact (stL_dn (by omega) (by omega) (by omega)).symm)]; exact hz_22), S⟩
      · replace hc_9 := of_decide_eq_false hc_9
        refine WP_skip ?_
        refine T_n ?_
        refine WP_seq ?_
        refine WP_seq ?_
        refine WP_region ?_
        refine S_v E rfl (R_move E rfl) rfl ?_
        clear E a; intro a E
        refine S_v E rfl (R_gtr E rfl rfl) rfl ?_
        clear E a; intro a E
        refine WL_nil ?_
        refine T_n ?_
        refine WP_cond E rfl (fun hc_23 => ?_) (fun hc_23 => ?_)
        · replace hc_23 := of_decide_eq_true hc_23
          refine WP_seq ?_
          refine WP_region ?_
          refine S_x (X_buildI (ys := []) E S rfl T24 rfl rfl rfl ?_)
          clear E a S; rintro a w v_24 E S
          refine S_v E rfl (R_assign E rfl) rfl ?_
          clear E a; intro a E
          refine WL_nil ?_
          refine T_n ?_
          refine WP_ret ?_
          refine T_r ?_
          have S0 := S; clear S
          obtain ⟨M_25, hM_25, hz_26, S⟩ := S0.freezeI (by (first | omega | (simp; done) | (rw [rsL_len]; omega)))
          clear S0
          exact F_ret1 E Try.results8 rfl ⟨_, rfl, M_25, hM_25, (by rw [show (stL x0 x1 x2) = ([] : List Int) from by (first | exact st_none (by omega) | exact stL_up (by omega) (by omega) (by omega) | exact stL_dn (by omega) (by omega) (by omega) | exact (st_none (by omega)).symm | exact (stL_up (by omega) (by omega) (by omega)).symm | exact (stL_dn (by omega) (by omega) (by omega)).symm)]; exact hz_26), S⟩
        · replace hc_23 := of_decide_eq_false hc_23
          refine WP_skip ?_
          refine T_n ?_
          refine WP_seq ?_
          refine WP_region ?_
          refine S_v E rfl (R_move E rfl) rfl ?_
          clear E a; intro a E
          refine S_v E rfl (R_move E rfl) rfl ?_
          clear E a; intro a E
          refine S_v E rfl (R_move E rfl) rfl ?_
          clear E a; intro a E
          refine S_v E rfl (R_subx (m := x0 - x1) E rfl rfl (by omega) (by omega)) rfl ?_
          clear E a; intro a E
          refine S_v E rfl (R_move E rfl) rfl ?_
          clear E a; intro a E
          refine S_v E rfl (R_negx (m := -x2) E rfl rfl (by omega)) rfl ?_
          clear E a; intro a E
          refine S_x (X_pu E S rfl rfl rfl (lo_RangeWithSteps1 (by omega) (by omega)) (Hp.le.refl _) ?_)
          clear E a S; rintro a _ w M_27 hM_27 ⟨kk_28, rfl, hkk_28⟩ S E
          refine S_x (X_make0 (k := kk_28) E S rfl rfl rfl T24 rfl (by omega) (by omega) (by omega) ?_)
          clear E a S; rintro a w v_29 E S
          replace S := S.made0
          refine S_v E rfl (R_assign E rfl) rfl ?_
          clear E a; intro a E
          refine WL_nil ?_
          refine T_n ?_
          refine WP_seq ?_
          refine WP_seq ?_
          refine WP_region ?_
          refine S_v E rfl (R_move E rfl) rfl ?_
          clear E a; intro a E
          refine S_v E rfl (R_assign E rfl) rfl ?_
          clear E a; intro a E
          refine WL_nil ?_
          refine T_n ?_
          refine WP_block ?_
          replace S := S.re1 (l' := rsL x0 x2 0) (by first | rfl | exact rsL_succ _ _ _)
          refine WP_loop (γ := Nat) (fun (k : Nat) a w => ∃ (M_30 : Hp) (u10 : Value), Hp.le M_27 M_30 ∧ St w M_30 (OwnI 3 u10 (rsL x0 x2 k) :: H) ∧ Env a 68 [] [(1, .int .i64 x1), (2, .int .i64 x2), (10, u10), (11, .int .i64 (x0 + (k : Int) * x2))] ∧ (k = 0 ∨ x1 < x0 + (k : Int) * x2 - x2)) (fun k => (x0 + (k : Int) * x2 - x1).toNat) 0 ⟨M_27, _, Hp.le.refl _, S, E.keep ⟨rfl, rfl, rfl, look_int (i := x0) rfl (by (simp)), trivial⟩, (by left; rfl)⟩ ?_
          try clear E
          try clear S
          try clear a
          try clear w
          rintro k a w ⟨M_30, u10, hM_30, S, E, hL1_0⟩
          have hkx := rs_k_dn (s := x2) (by omega) k
          refine WP_seq ?_
          refine WP_seq ?_
          refine WP_region ?_
          refine S_v E rfl (R_move E rfl) rfl ?_
          clear E a; intro a E
          refine S_v E rfl (R_move E rfl) rfl ?_
          clear E a; intro a E
          refine S_v E rfl (R_gtr E rfl rfl) rfl ?_
          clear E a; intro a E
          refine WL_nil ?_
          refine T_n ?_
          refine WP_cond E rfl (fun hc_31 => ?_) (fun hc_31 => ?_)
          · replace hc_31 := of_decide_eq_true hc_31
            refine WP_skip ?_
            refine T_n ?_
            refine WP_seq ?_
            refine WP_block ?_
            refine WP_region ?_
            refine S_v E rfl (R_move E rfl) rfl ?_
            clear E a; intro a E
            refine S_v E rfl (R_move E rfl) rfl ?_
            clear E a; intro a E
            refine S_x (X_buildI (ys := [x0 + (k : Int) * x2]) E S rfl T24 rfl rfl rfl ?_)
            clear E a S; rintro a w v_32 E S
            replace S := S.front1
            replace S := S.front1
            refine S_x (X_appendB (xs := rsL x0 x2 k) (ys := [x0 + (k : Int) * x2]) E S rfl rfl rfl T24 (by (simp only [rsL_len, List.length_cons, List.length_nil]; omega)) ?_)
            clear E a S; rintro a w v_33 E S
            refine S_v E rfl (R_assign E rfl) rfl ?_
            clear E a; intro a E
            refine WL_nil ?_
            refine B_n ?_
            refine T_n ?_
            refine WP_region ?_
            refine S_v E rfl (R_move E rfl) rfl ?_
            clear E a; intro a E
            refine S_v E rfl (R_move E rfl) rfl ?_
            clear E a; intro a E
            refine S_v E rfl (R_addx (m := (x0 + (k : Int) * x2) + x2) E rfl rfl (by omega) (by omega)) rfl ?_
            clear E a; intro a E
            refine S_v E rfl (R_assign E rfl) rfl ?_
            clear E a; intro a E
            refine WL_nil ?_
            refine T_n ?_
            replace S := S.re1 (l' := rsL x0 x2 (k + 1)) (by first | rfl | exact rsL_succ _ _ _)
            exact ⟨k + 1, ⟨M_30, _, hM_30, S, E.keep ⟨rfl, rfl, rfl, look_int (i := (x0 + (k : Int) * x2) + x2) rfl (by (have h9 := rs_next x0 x2 k; omega)), trivial⟩, (by right; have h9 := rs_next x0 x2 k; omega)⟩, (by have h9 := rs_next x0 x2 k; omega)⟩
          · replace hc_31 := of_decide_eq_false hc_31
            refine WP_exit ?_
            refine T_x ?_
            refine T_x ?_
            refine B_x ?_
            refine T_n ?_
            refine WP_seq ?_
            refine WP_region ?_
            refine S_v E rfl (R_move E rfl) rfl ?_
            clear E a; intro a E
            refine S_v E rfl (R_assign E rfl) rfl ?_
            clear E a; intro a E
            refine WL_nil ?_
            refine T_n ?_
            refine WP_ret ?_
            have S0 := S; clear S
            obtain ⟨M_34, hM_34, hz_35, S⟩ := S0.freezeI (by (first | omega | (simp; done) | (rw [rsL_len]; omega)))
            clear S0
            exact F_ret1 E Try.results8 rfl ⟨_, rfl, M_34, (hM_27.trans (hM_30.trans hM_34)), (by rw [show (stL x0 x1 x2) = (rsL x0 x2 k) from by (first | exact st_none (by omega) | exact stL_up (by omega) (by omega) (by omega) | exact stL_dn (by omega) (by omega) (by omega) | exact (st_none (by omega)).symm | exact (stL_up (by omega) (by omega) (by omega)).symm | exact (stL_dn (by omega) (by omega) (by omega)).symm)]; exact hz_35), S⟩

set_option maxRecDepth 100000 in
set_option maxHeartbeats 4000000 in
theorem impl_RangeWithSteps {M : Hp} {x0 x1 x2 : Int} (g0 : -32768 ≤ x0 ∧ x0 ≤ 32767) (g1 : -32768 ≤ x1 ∧ x1 ≤ 32767) (g2 : -128 ≤ x2 ∧ x2 ≤ 127) :
    Pu Try.prog (.func (.func 4) #[] #[]) M [.int .i64 x0, .int .i64 x1, .int .i64 x2] (fun r M' => RdI M' r (stL x0 x1 x2)) := by
  refine Pu_enter Try.func4 rfl Try.ntmps4 rfl Try.call4 ?_
  intro a w M1 H hM1 S E
  refine WP_seq ?_
  refine WP_region ?_
  refine S_v E rfl (R_assign E rfl) rfl ?_
  clear E a; intro a E
  refine WL_nil ?_
  refine T_n ?_
  refine WP_seq ?_
  refine WP_region ?_
  refine S_v E rfl (R_move E rfl) rfl ?_
  clear E a; intro a E
  refine S_v E rfl (R_move E rfl) rfl ?_
  clear E a; intro a E
  refine S_v E rfl (R_move E rfl) rfl ?_
  clear E a; intro a E
  refine S_x (X_pu E S rfl rfl rfl (lo_RangeWithSteps (by omega) (by omega) (by omega)) (Hp.le.refl _) ?_)
  clear E a S; rintro a v_2 w M_1 hM_1 hv_2 S E
  refine S_v E rfl (R_assign E rfl) rfl ?_
  clear E a; intro a E
  refine WL_nil ?_
  refine T_n ?_
  refine WP_ret ?_
  exact F_ret1 E Try.results4 rfl ⟨_, rfl, M_1, hM_1, hv_2, S⟩

set_option maxRecDepth 100000 in
set_option maxHeartbeats 4000000 in
theorem spec_RangeWithSteps {M : Hp} {x0 x1 x2 : Int} (g0 : -32768 ≤ x0 ∧ x0 ≤ 32767) (g1 : -32768 ≤ x1 ∧ x1 ≤ 32767) (g2 : -128 ≤ x2 ∧ x2 ≤ 127) :
    Pu Try.prog (.func (.func 5) #[] #[]) M [.int .i64 x0, .int .i64 x1, .int .i64 x2] (fun r M' => ∃ t0, r = .tuple #[t0, .int .i64 1] ∧ RdI M' t0 (stL x0 x1 x2)) := by
  refine Pu_enter Try.func5 rfl Try.ntmps5 rfl Try.call5 ?_
  intro a w M1 H hM1 S E
  refine WP_seq ?_
  refine WP_region ?_
  refine S_v E rfl (R_assign E rfl) rfl ?_
  clear E a; intro a E
  refine S_v E rfl (R_assign E rfl) rfl ?_
  clear E a; intro a E
  refine WL_nil ?_
  refine T_n ?_
  refine WP_seq ?_
  refine WP_seq ?_
  refine WP_region ?_
  refine S_v E rfl (R_move E rfl) rfl ?_
  clear E a; intro a E
  refine S_v E rfl (R_gtr E rfl rfl) rfl ?_
  clear E a; intro a E
  refine S_v E rfl (R_move E rfl) rfl ?_
  clear E a; intro a E
  refine split_bool (decide (2305843009213693952 < x0)) (fun hc_1 => ?_) (fun hc_1 => ?_)
  · replace E := E.val (t := 11) rfl hc_1
    replace E := E.val (t := 12) rfl hc_1
    replace hc_1 := of_decide_eq_true hc_1
    refine WL_guard_no E rfl rfl rfl rfl fun a E => ?_
    refine WL_guard_no E rfl rfl rfl rfl fun a E => ?_
    refine S_v E rfl (R_pickT E rfl rfl) rfl ?_
    clear E a; intro a E
    refine S_v E rfl (R_move E rfl) rfl ?_
    clear E a; intro a E
    refine WL_guard_no E rfl rfl rfl rfl fun a E => ?_
    refine WL_guard_no E rfl rfl rfl rfl fun a E => ?_
    refine S_v E rfl (R_pickT E rfl rfl) rfl ?_
    clear E a; intro a E
    refine S_v E rfl (R_move E rfl) rfl ?_
    clear E a; intro a E
    refine WL_guard_no E rfl rfl rfl rfl fun a E => ?_
    refine WL_guard_no E rfl rfl rfl rfl fun a E => ?_
    refine S_v E rfl (R_pickT E rfl rfl) rfl ?_
    clear E a; intro a E
    refine S_v E rfl (R_move E rfl) rfl ?_
    clear E a; intro a E
    refine WL_guard_no E rfl rfl rfl rfl fun a E => ?_
    refine WL_guard_no E rfl rfl rfl rfl fun a E => ?_
    refine S_v E rfl (R_pickT E rfl rfl) rfl ?_
    clear E a; intro a E
    refine S_v E rfl (R_move E rfl) rfl ?_
    clear E a; intro a E
    refine WL_guard_no E rfl rfl rfl rfl fun a E => ?_
    refine WL_guard_no E rfl rfl rfl rfl fun a E => ?_
    refine S_v E rfl (R_pickT E rfl rfl) rfl ?_
    clear E a; intro a E
    refine WL_nil ?_
    refine T_n ?_
    refine WP_condT E rfl rfl ?_
    refine WP_seq ?_
    refine WP_region ?_
    refine S_v E rfl (R_assign E rfl) rfl ?_
    clear E a; intro a E
    refine S_v E rfl (R_assign E rfl) rfl ?_
    clear E a; intro a E
    refine WL_nil ?_
    refine T_n ?_
    refine WP_ret ?_
    refine T_r ?_
    exact F_ret2 E Try.results5 rfl rfl ⟨_, rfl, M1, (Hp.le.refl _), ⟨_, (by (exfalso; omega)), (by rw [show stL x0 x1 x2 = [] from by (exfalso; omega)]; exact RdS.nil _)⟩, S⟩
  · replace E := E.val (t := 11) rfl hc_1
    replace E := E.val (t := 12) rfl hc_1
    replace hc_1 := of_decide_eq_false hc_1
    refine WL_guard_yes E rfl rfl ?_
    refine S_v E rfl (R_move E rfl) rfl ?_
    clear E a; intro a E
    refine WL_guard_yes E rfl rfl ?_
    refine S_v E rfl (R_gtr E rfl rfl) rfl ?_
    clear E a; intro a E
    refine S_v E rfl (R_pickF E rfl rfl) rfl ?_
    clear E a; intro a E
    refine S_v E rfl (R_move E rfl) rfl ?_
    clear E a; intro a E
    refine split_bool (decide (2305843009213693952 < x1)) (fun hc_2 => ?_) (fun hc_2 => ?_)
    · replace E := E.val (t := 14) rfl hc_2
      replace E := E.val (t := 15) rfl hc_2
      replace E := E.val (t := 16) rfl hc_2
      replace hc_2 := of_decide_eq_true hc_2
      refine WL_guard_no E rfl rfl rfl rfl fun a E => ?_
      refine WL_guard_no E rfl rfl rfl rfl fun a E => ?_
      refine S_v E rfl (R_pickT E rfl rfl) rfl ?_
      clear E a; intro a E
      refine S_v E rfl (R_move E rfl) rfl ?_
      clear E a; intro a E
      refine WL_guard_no E rfl rfl rfl rfl fun a E => ?_
      refine WL_guard_no E rfl rfl rfl rfl fun a E => ?_
      refine S_v E rfl (R_pickT E rfl rfl) rfl ?_
      clear E a; intro a E
      refine S_v E rfl (R_move E rfl) rfl ?_
      clear E a; intro a E
      refine WL_guard_no E rfl rfl rfl rfl fun a E => ?_
      refine WL_guard_no E rfl rfl rfl rfl fun a E => ?_
      refine S_v E rfl (R_pickT E rfl rfl) rfl ?_
      clear E a; intro a E
      refine S_v E rfl (R_move E rfl) rfl ?_
      clear E a; intro a E
      refine WL_guard_no E rfl rfl rfl rfl fun a E => ?_
      refine WL_guard_no E rfl rfl rfl rfl fun a E => ?_
      refine S_v E rfl (R_pickT E rfl rfl) rfl ?_
      clear E a; intro a E
      refine WL_nil ?_
      refine T_n ?_
      refine WP_condT E rfl rfl ?_
      refine WP_seq ?_
      refine WP_region ?_
      refine S_v E rfl (R_assign E rfl) rfl ?_
      clear E a; intro a E
      refine S_v E rfl (R_assign E rfl) rfl ?_
      clear E a; intro a E
      refine WL_nil ?_
      refine T_n ?_
      refine WP_ret ?_
      refine T_r ?_
      exact F_ret2 E Try.results5 rfl rfl ⟨_, rfl, M1, (Hp.le.refl _), ⟨_, (by (exfalso; omega)), (by rw [show stL x0 x1 x2 = [] from by (exfalso; omega)]; exact RdS.nil _)⟩, S⟩
    · replace E := E.val (t := 14) rfl hc_2
      replace E := E.val (t := 15) rfl hc_2
      replace E := E.val (t := 16) rfl hc_2
      replace hc_2 := of_decide_eq_false hc_2
      refine WL_guard_yes E rfl rfl ?_
      refine S_v E rfl (R_move E rfl) rfl ?_
      clear E a; intro a E
      refine WL_guard_yes E rfl rfl ?_
      refine S_v E rfl (R_gtr E rfl rfl) rfl ?_
      clear E a; intro a E
      refine S_v E rfl (R_pickF E rfl rfl) rfl ?_
      clear E a; intro a E
      refine S_v E rfl (R_move E rfl) rfl ?_
      clear E a; intro a E
      refine split_bool (decide (2305843009213693952 < x2)) (fun hc_3 => ?_) (fun hc_3 => ?_)
      · replace E := E.val (t := 18) rfl hc_3
        replace E := E.val (t := 19) rfl hc_3
        replace E := E.val (t := 20) rfl hc_3
        replace hc_3 := of_decide_eq_true hc_3
        refine WL_guard_no E rfl rfl rfl rfl fun a E => ?_
        refine WL_guard_no E rfl rfl rfl rfl fun a E => ?_
        refine S_v E rfl (R_pickT E rfl rfl) rfl ?_
        clear E a; intro a E
        refine S_v E rfl (R_move E rfl) rfl ?_
        clear E a; intro a E
        refine WL_guard_no E rfl rfl rfl rfl fun a E => ?_
        refine WL_guard_no E rfl rfl rfl rfl fun a E => ?_
        refine S_v E rfl (R_pickT E rfl rfl) rfl ?_
        clear E a; intro a E
        refine S_v E rfl (R_move E rfl) rfl ?_
        clear E a; intro a E
        refine WL_guard_no E rfl rfl rfl rfl fun a E => ?_
        refine WL_guard_no E rfl rfl rfl rfl fun a E => ?_
        refine S_v E rfl (R_pickT E rfl rfl) rfl ?_
        clear E a; intro a E
        refine WL_nil ?_
        refine T_n ?_
        refine WP_condT E rfl rfl ?_
        refine WP_seq ?_
        refine WP_region ?_
        refine S_v E rfl (R_assign E rfl) rfl ?_
        clear E a; intro a E
        refine S_v E rfl (R_assign E rfl) rfl ?_
        clear E a; intro a E
        refine WL_nil ?_
        refine T_n ?_
        refine WP_ret ?_
        refine T_r ?_
        exact F_ret2 E Try.results5 rfl rfl ⟨_, rfl, M1, (Hp.le.refl _), ⟨_, (by (exfalso; omega)), (by rw [show stL x0 x1 x2 = [] from by (exfalso; omega)]; exact RdS.nil _)⟩, S⟩
      · replace E := E.val (t := 18) rfl hc_3
        replace E := E.val (t := 19) rfl hc_3
        replace E := E.val (t := 20) rfl hc_3
        replace hc_3 := of_decide_eq_false hc_3
        refine WL_guard_yes E rfl rfl ?_
        refine S_v E rfl (R_move E rfl) rfl ?_
        clear E a; intro a E
        refine WL_guard_yes E rfl rfl ?_
        refine S_v E rfl (R_lss E rfl rfl) rfl ?_
        clear E a; intro a E
        refine S_v E rfl (R_pickF E rfl rfl) rfl ?_
        clear E a; intro a E
        refine S_v E rfl (R_move E rfl) rfl ?_
        clear E a; intro a E
        refine split_bool (decide (x0 < (-2305843009213693952))) (fun hc_4 => ?_) (fun hc_4 => ?_)
        · replace E := E.val (t := 22) rfl hc_4
          replace E := E.val (t := 23) rfl hc_4
          replace E := E.val (t := 24) rfl hc_4
          replace hc_4 := of_decide_eq_true hc_4
          refine WL_guard_no E rfl rfl rfl rfl fun a E => ?_
          refine WL_guard_no E rfl rfl rfl rfl fun a E => ?_
          refine S_v E rfl (R_pickT E rfl rfl) rfl ?_
          clear E a; intro a E
          refine S_v E rfl (R_move E rfl) rfl ?_
          clear E a; intro a E
          refine WL_guard_no E rfl rfl rfl rfl fun a E => ?_
          refine WL_guard_no E rfl rfl rfl rfl fun a E => ?_
          refine S_v E rfl (R_pickT E rfl rfl) rfl ?_
          clear E a; intro a E
          refine WL_nil ?_
          refine T_n ?_
          refine WP_condT E rfl rfl ?_
          refine WP_seq ?_
          refine WP_region ?_
          refine S_v E rfl (R_assign E rfl) rfl ?_
          clear E a; intro a E
          refine S_v E rfl (R_assign E rfl) rfl ?_
          clear E a; intro a E
          refine WL_nil ?_
          refine T_n ?_
          refine WP_ret ?_
          refine T_r ?_
          exact F_ret2 E Try.results5 rfl rfl ⟨_, rfl, M1, (Hp.le.refl _), ⟨_, (by (exfalso; omega)), (by rw [show stL x0 x1 x2 = [] from by (exfalso; omega)]; exact RdS.nil _)⟩, S⟩
        · replace E := E.val (t := 22) rfl hc_4
          replace E := E.val (t := 23) rfl hc_4
          replace E := E.val (t := 24) rfl hc_4
          replace hc_4 := of_decide_eq_false hc_4
          refine WL_guard_yes E rfl rfl ?_
          refine S_v E rfl (R_move E rfl) rfl ?_
          clear E a; intro a E
          refine WL_guard_yes E rfl rfl ?_
          refine S_v E rfl (R_lss E rfl rfl) rfl ?_
          clear E a; intro a E
          refine S_v E rfl (R_pickF E rfl rfl) rfl ?_
          clear E a; intro a E
          refine S_v E rfl (R_move E rfl) rfl ?_
          clear E a; intro a E
          refine split_bool (decide (x1 < (-2305843009213693952))) (fun hc_5 => ?_) (fun hc_5 => ?_)
          · replace E := E.val (t := 26) rfl hc_5
            replace E := E.val (t := 27) rfl hc_5
            replace E := E.val (t := 28) rfl hc_5
            replace hc_5 := of_decide_eq_true hc_5
            refine WL_guard_no E rfl rfl rfl rfl fun a E => ?_
            refine WL_guard_no E rfl rfl rfl rfl fun a E => ?_
            refine S_v E rfl (R_pickT E rfl rfl) rfl ?_
            clear E a; intro a E
            refine WL_nil ?_
            refine T_n ?_
            refine WP_condT E rfl rfl ?_
            refine WP_seq ?_
            refine WP_region ?_
            refine S_v E rfl (R_assign E rfl) rfl ?_
            clear E a; intro a E
            refine S_v E rfl (R_assign E rfl) rfl ?_
            clear E a; intro a E
            refine WL_nil ?_
            refine T_n ?_
            refine WP_ret ?_
            refine T_r ?_
            exact F_ret2 E Try.results5 rfl rfl ⟨_, rfl, M1, (Hp.le.refl _), ⟨_, (by (exfalso; omega)), (by rw [show stL x0 x1 x2 = [] from by (exfalso; omega)]; exact RdS.nil _)⟩, S⟩
          · replace E := E.val (t := 26) rfl hc_5
            replace E := E.val (t := 27) rfl hc_5
            replace E := E.val (t := 28) rfl hc_5
            replace hc_5 := of_decide_eq_false hc_5
            refine WL_guard_yes E rfl rfl ?_
            refine S_v E rfl (R_move E rfl) rfl ?_
            clear E a; intro a E
            refine WL_guard_yes E rfl rfl ?_
            refine S_v E rfl (R_lss E rfl rfl) rfl ?_
            clear E a; intro a E
            refine S_v E rfl (R_pickF E rfl rfl) rfl ?_
            clear E a; intro a E
            refine WL_nil ?_
            refine T_n ?_
            refine WP_cond E rfl (fun hc_6 => ?_) (fun hc_6 => ?_)
            · replace hc_6 := of_decide_eq_true hc_6
              refine WP_seq ?_
              refine WP_region ?_
              refine S_v E rfl (R_assign E rfl) rfl ?_
              clear E a; intro a E
              refine S_v E rfl (R_assign E rfl) rfl ?_
              clear E a; intro a E
              refine WL_nil ?_
              refine T_n ?_
              refine WP_ret ?_
              refine T_r ?_
              exact F_ret2 E Try.results5 rfl rfl ⟨_, rfl, M1, (Hp.le.refl _), ⟨_, (by (exfalso; omega)), (by rw [show stL x0 x1 x2 = [] from by (exfalso; omega)]; exact RdS.nil _)⟩, S⟩
            · replace hc_6 := of_decide_eq_false hc_6
              refine WP_skip ?_
              refine T_n ?_
              refine WP_seq ?_
              refine WP_region ?_
              refine S_v E rfl (R_assign E rfl) rfl ?_
              clear E a; intro a E
              refine WL_nil ?_
              refine T_n ?_
              refine WP_seq ?_
              refine WP_seq ?_
              refine WP_region ?_
              refine S_v E rfl (R_move E rfl) rfl ?_
              clear E a; intro a E
              refine S_v E rfl (R_assign E rfl) rfl ?_
              clear E a; intro a E
              refine WL_nil ?_
              refine T_n ?_
              refine WP_block ?_
              replace S := (S.ownNil (e := 3) (sz := 1)).made0
              replace S := S.re1 (l' := rsL x0 x2 0) (by first | rfl | exact rsL_succ _ _ _)
              refine WP_loop (γ := Nat) (fun (k : Nat) a w => ∃ (M_8 : Hp) (u8 : Value), Hp.le M1 M_8 ∧ St w M_8 (OwnI 3 u8 (rsL x0 x2 k) :: H) ∧ Env a 57 [] [(1, .int .i64 x1), (2, .int .i64 x2), (8, u8), (9, .int .i64 (x0 + (k : Int) * x2))] ∧ (k = 0 ∨ (0 < x2 ∧ x0 + (k : Int) * x2 - x2 < x1) ∨ (x2 < 0 ∧ x1 < x0 + (k : Int) * x2 - x2))) (fun k => if 0 < x2 then (x1 - (x0 + (k : Int) * x2)).toNat else (x0 + (k : Int) * x2 - x1).toNat) 0 ⟨M1, _, Hp.le.refl _, S, E.keep ⟨rfl, rfl, rfl, look_int (i := x0) rfl (by (simp)), trivial⟩, (by left; rfl)⟩ ?_
              try clear E
              try clear S
              try clear a
              try clear w
              rintro k a w ⟨M_8, u8, hM_8, S, E, hL0_0⟩
              have hk1 : 1 ≤ x2 → (k : Int) ≤ (k : Int) * x2 := fun h => rs_k_up h k
              have hk2 : x2 ≤ -1 → (k : Int) ≤ -((k : Int) * x2) := fun h => rs_k_dn h k
              refine WP_seq ?_
              refine WP_seq ?_
              refine WP_region ?_
              refine S_v E rfl (R_move E rfl) rfl ?_
              clear E a; intro a E
              refine S_v E rfl (R_gtr E rfl rfl) rfl ?_
              clear E a; intro a E
              refine S_v E rfl (R_move E rfl) rfl ?_
              clear E a; intro a E
              refine split_bool (decide (0 < x2)) (fun hc_9 => ?_) (fun hc_9 => ?_)
              · replace E := E.val (t := 34) rfl hc_9
                replace E := E.val (t := 35) rfl hc_9
                replace hc_9 := of_decide_eq_true hc_9
                refine WL_guard_yes E rfl rfl ?_
                refine S_v E rfl (R_move E rfl) rfl ?_
                clear E a; intro a E
                refine WL_guard_yes E rfl rfl ?_
                refine S_v E rfl (R_move E rfl) rfl ?_
                clear E a; intro a E
                refine WL_guard_yes E rfl rfl ?_
                refine S_v E rfl (R_lss E rfl rfl) rfl ?_
                clear E a; intro a E
                refine S_v E rfl (R_pickT E rfl rfl) rfl ?_
                clear E a; intro a E
                refine S_v E rfl (R_move E rfl) rfl ?_
                clear E a; intro a E
                refine split_bool (decide (x0 + (k : Int) * x2 < x1)) (fun hc_10 => ?_) (fun hc_10 => ?_)
                · replace E := E.val (t := 38) rfl hc_10
                  replace E := E.val (t := 39) rfl hc_10
                  replace E := E.val (t := 40) rfl hc_10
                  replace hc_10 := of_decide_eq_true hc_10
                  refine WL_guard_no E rfl rfl rfl rfl fun a E => ?_
                  refine WL_guard_no E rfl rfl rfl rfl fun a E => ?_
                  refine WL_guard_no E rfl rfl rfl rfl fun a E => ?_
                  refine WL_guard_un E rfl rfl rfl fun a E => ?_
                  refine WL_guard_un E rfl rfl rfl fun a E => ?_
                  refine WL_guard_un E rfl rfl rfl fun a E => ?_
                  refine WL_guard_no E rfl rfl rfl rfl fun a E => ?_
                  refine S_v E rfl (R_pickT E rfl rfl) rfl ?_
                  clear E a; intro a E
                  refine WL_nil ?_
                  refine T_n ?_
                  refine WP_condT E rfl rfl ?_
                  refine WP_skip ?_
                  refine T_n ?_
                  refine WP_seq ?_
                  refine WP_block ?_
                  refine WP_region ?_
                  refine S_v E rfl (R_move E rfl) rfl ?_
                  clear E a; intro a E
                  refine S_v E rfl (R_move E rfl) rfl ?_
                  clear E a; intro a E
                  refine S_x (X_buildI (ys := [x0 + (k : Int) * x2]) E S rfl T24 rfl rfl rfl ?_)
                  clear E a S; rintro a w v_11 E S
                  replace S := S.front1
                  replace S := S.front1
                  refine S_x (X_appendB (xs := rsL x0 x2 k) (ys := [x0 + (k : Int) * x2]) E S rfl rfl rfl T24 (by (simp only [rsL_len, List.length_cons, List.length_nil]; omega)) ?_)
                  clear E a S; rintro a w v_12 E S
                  refine S_v E rfl (R_assign E rfl) rfl ?_
                  clear E a; intro a E
                  refine WL_nil ?_
                  refine B_n ?_
                  refine T_n ?_
                  refine WP_region ?_
                  refine S_v E rfl (R_move E rfl) rfl ?_
                  clear E a; intro a E
                  refine S_v E rfl (R_move E rfl) rfl ?_
                  clear E a; intro a E
                  refine S_v E rfl (R_addx (m := (x0 + (k : Int) * x2) + x2) E rfl rfl (by omega) (by omega)) rfl ?_
                  clear E a; intro a E
                  refine S_v E rfl (R_assign E rfl) rfl ?_
                  clear E a; intro a E
                  refine WL_nil ?_
                  refine T_n ?_
                  replace S := S.re1 (l' := rsL x0 x2 (k + 1)) (by first | rfl | exact rsL_succ _ _ _)
                  exact ⟨k + 1, ⟨M_8, _, hM_8, S, E.keep ⟨rfl, rfl, rfl, look_int (i := (x0 + (k : Int) * x2) + x2) rfl (by (have h9 := rs_next x0 x2 k; omega)), trivial⟩, (by right; have h9 := rs_next x0 x2 k; omega)⟩, (by have h9 := rs_next x0 x2 k; by_cases hx : 0 < x2 <;> simp only [hx, if_true, if_false] <;> omega)⟩
                · replace E := E.val (t := 38) rfl hc_10
                  replace E := E.val (t := 39) rfl hc_10
                  replace E := E.val (t := 40) rfl hc_10
                  replace hc_10 := of_decide_eq_false hc_10
                  refine WL_guard_yes E rfl rfl ?_
                  refine S_v E rfl (R_move E rfl) rfl ?_
                  clear E a; intro a E
                  refine WL_guard_yes E rfl rfl ?_
                  refine S_v E rfl (R_lss E rfl rfl) rfl ?_
                  clear E a; intro a E
                  refine WL_guard_yes E rfl rfl ?_
                  refine S_v E rfl (R_move E rfl) rfl ?_
                  clear E a; intro a E
                  refine split_bool (decide (x2 < 0)) (fun hc_13 => ?_) (fun hc_13 => ?_)
                  · replace E := E.val (t := 42) rfl hc_13
                    replace E := E.val (t := 43) rfl hc_13
                    replace hc_13 := of_decide_eq_true hc_13
                    refine WL_guard_yes E rfl rfl ?_
                    refine S_v E rfl (R_move E rfl) rfl ?_
                    clear E a; intro a E
                    refine WL_guard_yes E rfl rfl ?_
                    refine S_v E rfl (R_move E rfl) rfl ?_
                    clear E a; intro a E
                    refine WL_guard_yes E rfl rfl ?_
                    refine S_v E rfl (R_gtr E rfl rfl) rfl ?_
                    clear E a; intro a E
                    refine WL_guard_yes E rfl rfl ?_
                    refine S_v E rfl (R_pickT E rfl rfl) rfl ?_
                    clear E a; intro a E
                    refine S_v E rfl (R_pickF E rfl rfl) rfl ?_
                    clear E a; intro a E
                    refine WL_nil ?_
                    refine T_n ?_
                    refine WP_cond E rfl (fun hc_14 => ?_) (fun hc_14 => ?_)
                    · replace hc_14 := of_decide_eq_true hc_14
                      refine WP_skip ?_
                      refine T_n ?_
                      refine WP_seq ?_
                      refine WP_block ?_
                      refine WP_region ?_
                      refine S_v E rfl (R_move E rfl) rfl ?_
                      clear E a; intro a E
                      refine S_v E rfl (R_move E rfl) rfl ?_
                      clear E a; intro a E
                      refine S_x (X_buildI (ys := [x0 + (k : Int) * x2]) E S rfl T24 rfl rfl rfl ?_)
                      clear E a S; rintro a w v_15 E S
                      replace S := S.front1
                      replace S := S.front1
                      refine S_x (X_appendB (xs := rsL x0 x2 k) (ys := [x0 + (k : Int) * x2]) E S rfl rfl rfl T24 (by (simp only [rsL_len, List.length_cons, List.length_nil]; omega)) ?_)
                      clear E a S; rintro a w v_16 E S
                      refine S_v E rfl (R_assign E rfl) rfl ?_
                      clear E a; intro a E
                      refine WL_nil ?_
                      refine B_n ?_
                      refine T_n ?_
                      refine WP_region ?_
                      refine S_v E rfl (R_move E rfl) rfl ?_
                      clear E a; intro a E
                      refine S_v E rfl (R_move E rfl) rfl ?_
                      clear E a; intro a E
                      refine S_v E rfl (R_addx (m := (x0 + (k : Int) * x2) + x2) E rfl rfl (by omega) (by omega)) rfl ?_
                      clear E a; intro a E
                      refine S_v E rfl (R_assign E rfl) rfl ?_
                      clear E a; intro a E
                      refine WL_nil ?_
                      refine T_n ?_
                      replace S := S.re1 (l' := rsL x0 x2 (k + 1)) (by first | rfl | exact rsL_succ _ _ _)
                      exact ⟨k + 1, ⟨M_8, _, hM_8, S, E.keep ⟨rfl, rfl, rfl, look_int (i := (x0 + (k : Int) * x2) + x2) rfl (by (have h9 := rs_next x0 x2 k; omega)), trivial⟩, (by right; have h9 := rs_next x0 x2 k; omega)⟩, (by have h9 := rs_next x0 x2 k; by_cases hx : 0 < x2 <;> simp only [hx, if_true, if_false] <;> omega)⟩
                    · replace hc_14 := of_decide_eq_false hc_14
                      refine WP_exit ?_
                      refine T_x ?_
                      refine T_x ?_
                      refine B_x ?_
                      refine T_n ?_
                      refine WP_seq ?_
                      refine WP_region ?_
                      refine S_v E rfl (R_move E rfl) rfl ?_
                      clear E a; intro a E
                      refine S_v E rfl (R_assign E rfl) rfl ?_
                      clear E a; intro a E
                      refine S_v E rfl (R_assign E rfl) rfl ?_
                      clear E a; intro a E
                      refine WL_nil ?_
                      refine T_n ?_
                      refine WP_ret ?_
                      have S0 := S; clear S
                      obtain ⟨M_17, hM_17, hz_18, S⟩ := S0.freezeI (by (first | omega | (simp; done) | (rw [rsL_len]; omega)))
                      clear S0
                      exact F_ret2 E Try.results5 rfl rfl ⟨_, rfl, M_17, (hM_8.trans hM_17), ⟨_, (by first | rfl | (simp; done) | (simp_all; done)), (by rw [show (stL x0 x1 x2) = (rsL x0 x2 k) from by (first | exact stL_up (by omega) (by omega) (by omega) | exact stL_dn (by omega) (by omega) (by omega) | exact st_zero (by omega) (by omega) | exact (stL_up (by omega) (by omega) (by omega)).symm | exact (stL_dn (by omega) (by omega) (by omega)).symm | exact (st_zero (by omega) (by omega)).symm)]; exact hz_18)⟩, S⟩
                  · replace E := E.val (t := 42) rfl hc_13
                    replace E := E.val (t := 43) rfl hc_13
                    replace hc_13 := of_decide_eq_false hc_13
                    refine WL_guard_no E rfl rfl rfl rfl fun a E => ?_
                    refine WL_guard_no E rfl rfl rfl rfl fun a E => ?_
                    refine WL_guard_no E rfl rfl rfl rfl fun a E => ?_
                    refine WL_guard_yes E rfl rfl ?_
                    refine S_v E rfl (R_pickF E rfl rfl) rfl ?_
                    clear E a; intro a E
                    refine S_v E rfl (R_pickF E rfl rfl) rfl ?_
                    clear E a; intro a E
                    refine WL_nil ?_
                    refine T_n ?_
                    refine WP_condF E rfl rfl ?_
                    refine WP_exit ?_
                    refine T_x ?_
                    refine T_x ?_
                    refine B_x ?_
                    refine T_n ?_
                    refine WP_seq ?_
                    refine WP_region ?_
                    refine S_v E rfl (R_move E rfl) rfl ?_
                    clear E a; intro a E
                    refine S_v E rfl (R_assign E rfl) rfl ?_
                    clear E a; intro a E
                    refine S_v E rfl (R_assign E rfl) rfl ?_
                    clear E a; intro a E
                    refine WL_nil ?_
                    refine T_n ?_
                    refine WP_ret ?_
                    have S0 := S; clear S
                    obtain ⟨M_19, hM_19, hz_20, S⟩ := S0.freezeI (by (first | omega | (simp; done) | (rw [rsL_len]; omega)))
                    clear S0
                    exact F_ret2 E Try.results5 rfl rfl ⟨_, rfl, M_19, (hM_8.trans hM_19), ⟨_, (by first | rfl | (simp; done) | (simp_all; done)), (by rw [show (stL x0 x1 x2) = (rsL x0 x2 k) from by (first | exact stL_up (by omega) (by omega) (by omega) | exact stL_dn (by omega) (by omega) (by omega) | exact st_zero (by omega) (by omega) | exact (stL_up (by omega) (by omega) (by omega)).symm | exact (stL_dn (by omega) (by omega) (by omega)).symm | exact (st_zero (by omega) (by omega)).symm)]; exact hz_20)⟩, S⟩
              · replace E := E.val (t := 34) rfl hc_9
                replace E := E.val (t := 35) rfl hc_9
                replace hc_9 := of_decide_eq_false hc_9
                refine WL_guard_no E rfl rfl rfl rfl fun a E => ?_
                refine WL_guard_no E rfl rfl rfl rfl fun a E => ?_
                refine WL_guard_no E rfl rfl rfl rfl fun a E => ?_
                refine S_v E rfl (R_pickF E rfl rfl) rfl ?_
                clear E a; intro a E
                refine S_v E rfl (R_move E rfl) rfl ?_
                clear E a; intro a E
                refine WL_guard_yes E rfl rfl ?_
                refine S_v E rfl (R_move E rfl) rfl ?_
                clear E a; intro a E
                refine WL_guard_yes E rfl rfl ?_
                refine S_v E rfl (R_lss E rfl rfl) rfl ?_
                clear E a; intro a E
                refine WL_guard_yes E rfl rfl ?_
                refine S_v E rfl (R_move E rfl) rfl ?_
                clear E a; intro a E
                refine split_bool (decide (x2 < 0)) (fun hc_21 => ?_) (fun hc_21 => ?_)
                · replace E := E.val (t := 42) rfl hc_21
                  replace E := E.val (t := 43) rfl hc_21
                  replace hc_21 := of_decide_eq_true hc_21
                  refine WL_guard_yes E rfl rfl ?_
                  refine S_v E rfl (R_move E rfl) rfl ?_
                  clear E a; intro a E
                  refine WL_guard_yes E rfl rfl ?_
                  refine S_v E rfl (R_move E rfl) rfl ?_
                  clear E a; intro a E
                  refine WL_guard_yes E rfl rfl ?_
                  refine S_v E rfl (R_gtr E rfl rfl) rfl ?_
                  clear E a; intro a E
                  refine WL_guard_yes E rfl rfl ?_
                  refine S_v E rfl (R_pickT E rfl rfl) rfl ?_
                  clear E a; intro a E
                  refine S_v E rfl (R_pickF E rfl rfl) rfl ?_
                  clear E a; intro a E
                  refine WL_nil ?_
                  refine T_n ?_
                  refine WP_cond E rfl (fun hc_22 => ?_) (fun hc_22 => ?_)
                  · replace hc_22 := of_decide_eq_true hc_22
                    refine WP_skip ?_
                    refine T_n ?_
                    refine WP_seq ?_
                    refine WP_block ?_
                    refine WP_region ?_
                    refine S_v E rfl (R_move E rfl) rfl ?_
                    clear E a; intro a E
                    refine S_v E rfl (R_move E rfl) rfl ?_
                    clear E a; intro a E
                    refine S_x (X_buildI (ys := [x0 + (k : Int) * x2]) E S rfl T24 rfl rfl rfl ?_)
                    clear E a S; rintro a w v_23 E S
                    replace S := S.front1
                    replace S := S.front1
                    refine S_x (X_appendB (xs := rsL x0 x2 k) (ys := [x0 + (k : Int) * x2]) E S rfl rfl rfl T24 (by (simp only [rsL_len, List.length_cons, List.length_nil]; omega)) ?_)
                    clear E a S; rintro a w v_24 E S
                    refine S_v E rfl (R_assign E rfl) rfl ?_
                    clear E a; intro a E
                    refine WL_nil ?_
                    refine B_n ?_
                    refine T_n ?_
                    refine WP_region ?_
                    refine S_v E rfl (R_move E rfl) rfl ?_
                    clear E a; intro a E
                    refine S_v E rfl (R_move E rfl) rfl ?_
                    clear E a; intro a E
                    refine S_v E rfl (R_addx (m := (x0 + (k : Int) * x2) + x2) E rfl rfl (by omega) (by omega)) rfl ?_
                    clear E a; intro a E
                    refine S_v E rfl (R_assign E rfl) rfl ?_
                    clear E a; intro a E
                    refine WL_nil ?_
                    refine T_n ?_
                    replace S := S.re1 (l' := rsL x0 x2 (k + 1)) (by first | rfl | exact rsL_succ _ _ _)
                    exact ⟨k + 1, ⟨M_8, _, hM_8, S, E.keep ⟨rfl, rfl, rfl, look_int (i := (x0 + (k : Int) * x2) + x2) rfl (by (have h9 := rs_next x0 x2 k; omega)), trivial⟩, (by right; have h9 := rs_next x0 x2 k; omega)⟩, (by have h9 := rs_next x0 x2 k; by_cases hx : 0 < x2 <;> simp only [hx, if_true, if_false] <;> omega)⟩
                  · replace hc_22 := of_decide_eq_false hc_22
                    refine WP_exit ?_
                    refine T_x ?_
                    refine T_x ?_
                    refine B_x ?_
                    refine T_n ?_
                    refine WP_seq ?_
                    refine WP_region ?_
                    refine S_v E rfl (R_move E rfl) rfl ?_
                    clear E a; intro a E
                    refine S_v E rfl (R_assign E rfl) rfl ?_
                    clear E a; intro a E
                    refine S_v E rfl (R_assign E rfl) rfl ?_
                    clear E a; intro a E
                    refine WL_nil ?_
                    refine T_n ?_
                    refine WP_ret ?_
                    have S0 := S; clear S
                    obtain ⟨M_25, hM_25, hz_26, S⟩ := S0.freezeI (by (first | omega | (simp; done) | (rw [rsL_len]; omega)))
                    clear S0
                    exact F_ret2 E Try.results5 rfl rfl ⟨_, rfl, M_25, (hM_8.trans hM_25), ⟨_, (by first | rfl | (simp; done) | (simp_all; done)), (by rw [show (stL x0 x1 x2) = (rsL x0 x2 k) from by (first | exact stL_up (by omega) (by omega) (by omega) | exact stL_dn (by omega) (by omega) (by omega) | exact st_zero (by omega) (by omega) | exact (stL_up (by omega) (by omega) (by omega)).symm | exact (stL_dn (by omega) (by omega) (by omega)).symm | exact (st_zero (by omega) (by omega)).symm)]; exact hz_26)⟩, S⟩
                · replace E := E.val (t := 42) rfl hc_21
                  replace E := E.val (t := 43) rfl hc_21
                  replace hc_21 := of_decide_eq_false hc_21
                  refine WL_guard_no E rfl rfl rfl rfl fun a E => ?_
                  refine WL_guard_no E rfl rfl rfl rfl fun a E => ?_
                  refine WL_guard_no E rfl rfl rfl rfl fun a E => ?_
                  refine WL_guard_yes E rfl rfl ?_
                  refine S_v E rfl (R_pickF E rfl rfl) rfl ?_
                  clear E a; intro a E
                  refine S_v E rfl (R_pickF E rfl rfl) rfl ?_
                  clear E a; intro a E
                  refine WL_nil ?_
                  refine T_n ?_
                  refine WP_condF E rfl rfl ?_
                  refine WP_exit ?_
                  refine T_x ?_
                  refine T_x ?_
                  refine B_x ?_
                  refine T_n ?_
                  refine WP_seq ?_
                  refine WP_region ?_
                  refine S_v E rfl (R_move E rfl) rfl ?_
                  clear E a; intro a E
                  refine S_v E rfl (R_assign E rfl) rfl ?_
                  clear E a; intro a E
                  refine S_v E rfl (R_assign E rfl) rfl ?_
                  clear E a; intro a E
                  refine WL_nil ?_
                  refine T_n ?_
                  refine WP_ret ?_
                  have S0 := S; clear S
                  obtain ⟨M_27, hM_27, hz_28, S⟩ := S0.freezeI (by (first | omega | (simp; done) | (rw [rsL_len]; omega)))
                  clear S0
                  exact F_ret2 E Try.results5 rfl rfl ⟨_, rfl, M_27, (hM_8.trans hM_27), ⟨_, (by first | rfl | (simp; done) | (simp_all; done)), (by rw [show (stL x0 x1 x2) = (rsL x0 x2 k) from by (first | exact stL_up (by omega) (by omega) (by omega) | exact stL_dn (by omega) (by omega) (by omega) | exact st_zero (by omega) (by omega) | exact (stL_up (by omega) (by omega) (by omega)).symm | exact (stL_dn (by omega) (by omega) (by omega)).symm | exact (st_zero (by omega) (by omega)).symm)]; exact hz_28)⟩, S⟩

set_option maxRecDepth 100000 in
set_option maxHeartbeats 4000000 in
theorem laws_eq {M : Hp} {v0 v1 : Value} {l0 l1 : List Int} (h0 : RdI M v0 l0) (h1 : RdI M v1 l1) :
    Pu Try.prog (.func (.func 6) #[] #[]) M [v0, v1] (fun r M' => r = .bool (decide (l0 = l1))) := by
  refine Pu_enter Try.func6 rfl Try.ntmps6 rfl Try.call6 ?_
  intro a w M1 H hM1 S E
  replace h0 := h0.le hM1
  replace h1 := h1.le hM1
  have b0 := h0.bound
  have b1 := h1.bound
  refine WP_seq ?_
  refine WP_region ?_
  refine S_v E rfl (R_assign E rfl) rfl ?_
  clear E a; intro a E
  refine WL_nil ?_
  refine T_n ?_
  refine WP_seq ?_
  refine WP_seq ?_
  refine WP_region ?_
  refine S_v E rfl (R_move E rfl) rfl ?_
  clear E a; intro a E
  refine S_v E rfl (R_lenV E rfl T24 h0.len) rfl ?_
  clear E a; intro a E
  refine S_v E rfl (R_move E rfl) rfl ?_
  clear E a; intro a E
  refine S_v E rfl (R_lenV E rfl T24 h1.len) rfl ?_
  clear E a; intro a E
  refine S_v E rfl (R_neq E rfl rfl) rfl ?_
  clear E a; intro a E
  refine WL_nil ?_
  refine T_n ?_
  refine WP_cond E rfl (fun hc_1 => ?_) (fun hc_1 => ?_)
  · replace hc_1 := of_decide_eq_true hc_1
    refine WP_seq ?_
    refine WP_region ?_
    refine S_v E rfl (R_assign E rfl) rfl ?_
    clear E a; intro a E
    refine WL_nil ?_
    refine T_n ?_
    refine WP_ret ?_
    refine T_r ?_
    exact F_ret1 E Try.results6 rfl ⟨_, rfl, M1, (Hp.le.refl _), (bF (by ((try clear S); (try clear E); first | assumption | omega | rfl | (simp; done) | (simp_all; done) | (simp [List.take_add_one, *]; done) | grind [List.take_add_one]))), S⟩
  · replace hc_1 := of_decide_eq_false hc_1
    refine WP_skip ?_
    refine T_n ?_
    refine WP_seq ?_
    refine WP_seq ?_
    refine WP_region ?_
    refine S_v E rfl (R_move E rfl) rfl ?_
    clear E a; intro a E
    refine S_v E rfl (R_lenV E rfl T24 h0.len) rfl ?_
    clear E a; intro a E
    refine S_v E rfl (R_move E rfl) rfl ?_
    clear E a; intro a E
    refine WL_nil ?_
    refine T_n ?_
    refine WP_block ?_
    refine WP_loop (γ := Nat) (fun (k : Nat) a w => ∃ (M_2 : Hp), Hp.le M1 M_2 ∧ St w M_2 (H) ∧ Env a 26 [] [(0, v0), (1, v1), (12, .int .i64 (((l0).length : Nat) : Int)), (13, .int .i64 ((k : Nat) : Int))] ∧ (k ≤ (l0).length) ∧ (l0.length = l1.length) ∧ (l0.take k = l1.take k)) (fun k => ((l0).length) - k) 0 ⟨M1, Hp.le.refl _, S, E.keep ⟨rfl, rfl, rfl, rfl, trivial⟩, by ((try clear S); (try clear E); first | assumption | omega | rfl | (simp; done) | (simp_all; done) | (simp [List.take_add_one, *]; done) | grind [List.take_add_one]), by ((try clear S); (try clear E); first | assumption | omega | rfl | (simp; done) | (simp_all; done) | (simp [List.take_add_one, *]; done) | grind [List.take_add_one]), by ((try clear S); (try clear E); first | assumption | omega | rfl | (simp; done) | (simp_all; done) | (simp [List.take_add_one, *]; done) | grind [List.take_add_one])⟩ ?_
    try clear E
    try clear S
    try clear a
    try clear w
    rintro k a w ⟨M_2, hM_2, S, E, hL0_0, hL0_1, hL0_2⟩
    replace h0 := h0.le hM_2
    replace h1 := h1.le hM_2
    refine WP_seq ?_
    refine WP_region ?_
    refine S_v E rfl (R_lss E rfl rfl) rfl ?_
    clear E a; intro a E
    refine WL_nil ?_
    refine T_n ?_
    refine WP_seq ?_
    refine WP_cond E rfl (fun hc_3 => ?_) (fun hc_3 => ?_)
    · replace hc_3 := of_decide_eq_true hc_3
      refine WP_skip ?_
      refine T_n ?_
      refine WP_seq ?_
      refine WP_block ?_
      refine WP_seq ?_
      refine WP_region ?_
      refine S_v E rfl (R_move E rfl) rfl ?_
      clear E a; intro a E
      refine S_v E rfl (R_assign E rfl) rfl ?_
      clear E a; intro a E
      refine WL_nil ?_
      refine T_n ?_
      refine WP_seq ?_
      replace S := S.mono_heap (w' := World.drew _) rfl
      refine WP_drawn (C := fun x w => agree M_2 w) (bf := (fun i => [])) [0, 1, 2, 3, 4, 5, 6, 7, 8] [0, 1, 2, 3, 4, 5, 6, 7, 8] Try.mixed (by kernel_rfl) (fun x hq => S.imm) ?_
      refine D_v E rfl rfl rfl (fun w hC => (R_move E rfl)) ?_
      clear E a; intro a E
      refine D_v E rfl rfl rfl (fun w hC => (R_move E rfl)) ?_
      clear E a; intro a E
      obtain ⟨x_4, hx_4⟩ : ∃ x, (l0)[k]? = some x := ⟨_, List.getElem?_eq_getElem (by first | omega | (simp; done) | (simp; omega) | (simp_all; omega))⟩
      obtain ⟨p_5, hp_5, qp_5⟩ := h0.at hx_4
      refine D_v E rfl rfl rfl (fun w hC => (R_idx E rfl rfl T24 hp_5 rfl)) ?_
      clear E a; intro a E
      refine D_v E rfl rfl rfl (fun w hC => (R_loadM E rfl Try.isAgg3 hC qp_5)) ?_
      clear E a; intro a E
      refine D_v E rfl rfl rfl (fun w hC => (R_move E rfl)) ?_
      clear E a; intro a E
      refine D_v E rfl rfl rfl (fun w hC => (R_move E rfl)) ?_
      clear E a; intro a E
      obtain ⟨x_6, hx_6⟩ : ∃ x, (l1)[k]? = some x := ⟨_, List.getElem?_eq_getElem (by first | omega | (simp; done) | (simp; omega) | (simp_all; omega))⟩
      obtain ⟨p_7, hp_7, qp_7⟩ := h1.at hx_6
      refine D_v E rfl rfl rfl (fun w hC => (R_idx E rfl rfl T24 hp_7 rfl)) ?_
      clear E a; intro a E
      refine D_v E rfl rfl rfl (fun w hC => (R_loadM E rfl Try.isAgg3 hC qp_7)) ?_
      clear E a; intro a E
      refine D_v E rfl rfl rfl (fun w hC => (R_neq E rfl rfl)) ?_
      clear E a; intro a E
      refine D_end (NoP_n ?_)
      refine T_n ?_
      refine WP_cond E rfl (fun hc_8 => ?_) (fun hc_8 => ?_)
      · replace hc_8 := of_decide_eq_true hc_8
        refine WP_seq ?_
        refine WP_region ?_
        refine S_v E rfl (R_assign E rfl) rfl ?_
        clear E a; intro a E
        refine WL_nil ?_
        refine T_n ?_
        refine WP_ret ?_
        refine B_r ?_
        refine T_r ?_
        refine T_r ?_
        refine B_r ?_
        refine T_r ?_
        exact F_ret1 E Try.results6 rfl ⟨_, rfl, M_2, hM_2, (bF (by ((try clear S); (try clear E); first | assumption | omega | rfl | (simp; done) | (simp_all; done) | (simp [List.take_add_one, *]; done) | grind [List.take_add_one]))), S⟩
      · replace hc_8 := of_decide_eq_false hc_8
        refine WP_skip ?_
        refine B_n ?_
        refine T_n ?_
        refine WP_region ?_
        refine S_v E rfl (R_addx (m := ((k + 1 : Nat) : Int)) E rfl rfl (by omega) (by omega)) rfl ?_
        clear E a; intro a E
        refine S_v E rfl (R_move E rfl) rfl ?_
        clear E a; intro a E
        refine WL_nil ?_
        refine T_n ?_
        exact ⟨k + 1, ⟨M_2, hM_2, S, E.keep ⟨rfl, rfl, rfl, rfl, trivial⟩, by ((try clear S); (try clear E); first | assumption | omega | rfl | (simp; done) | (simp_all; done) | (simp [List.take_add_one, *]; done) | grind [List.take_add_one]), by ((try clear S); (try clear E); first | assumption | omega | rfl | (simp; done) | (simp_all; done) | (simp [List.take_add_one, *]; done) | grind [List.take_add_one]), by ((try clear S); (try clear E); first | assumption | omega | rfl | (simp; done) | (simp_all; done) | (simp [List.take_add_one, *]; done) | grind [List.take_add_one])⟩, by omega⟩
    · replace hc_3 := of_decide_eq_false hc_3
      refine WP_exit ?_
      refine T_x ?_
      refine T_x ?_
      refine B_x ?_
      refine T_n ?_
      refine WP_seq ?_
      refine WP_region ?_
      refine S_v E rfl (R_assign E rfl) rfl ?_
      clear E a; intro a E
      refine WL_nil ?_
      refine T_n ?_
      refine WP_ret ?_
      exact F_ret1 E Try.results6 rfl ⟨_, rfl, M_2, hM_2, (bT (by ((try clear S); (try clear E); first | assumption | omega | rfl | (simp; done) | (simp_all; done) | (simp [List.take_add_one, *]; done) | grind [List.take_add_one]))), S⟩

set_option maxRecDepth 100000 in
set_option maxHeartbeats 4000000 in
theorem it_RangeWithSteps1 {M : Hp} {x0 x1 x2 : Int} (g0 : -32768 ≤ x0 ∧ x0 ≤ 32767) (g1 : -32768 ≤ x1 ∧ x1 ≤ 32767) (g2 : -128 ≤ x2 ∧ x2 ≤ 127) {bx1 bx2 bx3 : Nat} (hbx1 : M bx1 = some (.cells #[.int .i64 x0] 3)) (hbx2 : M bx2 = some (.cells #[.int .i64 x1] 3)) (hbx3 : M bx3 = some (.cells #[.int .i64 x2] 3)) :
    SeqV Try.prog (.func (.func 14) #[] #[.pointer (some ⟨bx1, 0, none⟩), .pointer (some ⟨bx2, 0, none⟩), .pointer (some ⟨bx3, 0, none⟩)]) M (RInt) (stL x0 x1 x2) := by
  refine SeqV_enter Try.func14 rfl Try.ntmps14 rfl Try.call14 ?_
  intro y J X a w M1 c H hJM hM1 hY hJ S E
  replace hbx1 := hM1.2 _ _ hbx1
  replace hbx2 := hM1.2 _ _ hbx2
  replace hbx3 := hM1.2 _ _ hbx3
  refine WP_seq ?_
  refine WP_seq ?_
  refine WP_region ?_
  refine S_v E rfl (R_loadM E rfl Try.isAgg3 S.imm (cellM_box hbx1)) rfl ?_
  clear E a; intro a E
  refine S_v E rfl (R_loadM E rfl Try.isAgg3 S.imm (cellM_box hbx2)) rfl ?_
  clear E a; intro a E
  refine S_v E rfl (R_eql E rfl rfl) rfl ?_
  clear E a; intro a E
  refine S_v E rfl (R_move E rfl) rfl ?_
  clear E a; intro a E
  refine split_bool (decide (x0 = x1)) (fun hc_1 => ?_) (fun hc_1 => ?_)
  · replace E := E.val (t := 9) rfl hc_1
    replace E := E.val (t := 10) rfl hc_1
    replace hc_1 := of_decide_eq_true hc_1
    refine WL_guard_no E rfl rfl rfl rfl fun a E => ?_
    refine WL_guard_no E rfl rfl rfl rfl fun a E => ?_
    refine S_v E rfl (R_pickT E rfl rfl) rfl ?_
    clear E a; intro a E
    refine WL_nil ?_
    refine T_n ?_
    refine WP_condT E rfl rfl ?_
    refine WP_ret ?_
    refine T_r ?_
    replace S := S.front1
    replace S := S.front1
    have hpre : [] = stL x0 x1 x2 := by (first | exact st_none (by omega) | exact stL_up (by omega) (by omega) (by omega) | exact stL_dn (by omega) (by omega) (by omega) | exact (st_none (by omega)).symm | exact (stL_up (by omega) (by omega) (by omega)).symm | exact (stL_dn (by omega) (by omega) (by omega)).symm)
    rw [hpre] at hJ
    exact F_retM0 E S Try.results14 (fun w S => ⟨_, rfl, M1, _, (Hp.le.refl _), .inl hJ, S⟩)
  · replace E := E.val (t := 9) rfl hc_1
    replace E := E.val (t := 10) rfl hc_1
    replace hc_1 := of_decide_eq_false hc_1
    refine WL_guard_yes E rfl rfl ?_
    refine S_v E rfl (R_loadM E rfl Try.isAgg3 S.imm (cellM_box hbx3)) rfl ?_
    clear E a; intro a E
    refine WL_guard_yes E rfl rfl ?_
    refine S_v E rfl (R_eql E rfl rfl) rfl ?_
    clear E a; intro a E
    refine S_v E rfl (R_pickF E rfl rfl) rfl ?_
    clear E a; intro a E
    refine WL_nil ?_
    refine T_n ?_
    refine WP_cond E rfl (fun hc_2 => ?_) (fun hc_2 => ?_)
    · replace hc_2 := of_decide_eq_true hc_2
      refine WP_ret ?_
      refine T_r ?_
      replace S := S.front1
      replace S := S.front1
      have hpre : [] = stL x0 x1 x2 := by (first | exact st_none (by omega) | exact stL_up (by omega) (by omega) (by omega) | exact stL_dn (by omega) (by omega) (by omega) | exact (st_none (by omega)).symm | exact (stL_up (by omega) (by omega) (by omega)).symm | exact (stL_dn (by omega) (by omega) (by omega)).symm)
      rw [hpre] at hJ
      exact F_retM0 E S Try.results14 (fun w S => ⟨_, rfl, M1, _, (Hp.le.refl _), .inl hJ, S⟩)
    · replace hc_2 := of_decide_eq_false hc_2
      refine WP_skip ?_
      refine T_n ?_
      refine WP_seq ?_
      refine WP_seq ?_
      refine WP_region ?_
      refine S_v E rfl (R_loadM E rfl Try.isAgg3 S.imm (cellM_box hbx1)) rfl ?_
      clear E a; intro a E
      refine S_v E rfl (R_loadM E rfl Try.isAgg3 S.imm (cellM_box hbx2)) rfl ?_
      clear E a; intro a E
      refine S_v E rfl (R_lss E rfl rfl) rfl ?_
      clear E a; intro a E
      refine WL_nil ?_
      refine T_n ?_
      refine WP_cond E rfl (fun hc_3 => ?_) (fun hc_3 => ?_)
      · replace hc_3 := of_decide_eq_true hc_3
        refine WP_seq ?_
        refine WP_seq ?_
        refine WP_region ?_
        refine S_v E rfl (R_loadM E rfl Try.isAgg3 S.imm (cellM_box hbx3)) rfl ?_
        clear E a; intro a E
        refine S_v E rfl (R_lss E rfl rfl) rfl ?_
        clear E a; intro a E
        refine WL_nil ?_
        refine T_n ?_
        refine WP_cond E rfl (fun hc_4 => ?_) (fun hc_4 => ?_)
        · replace hc_4 := of_decide_eq_true hc_4
          refine WP_ret ?_
          refine T_r ?_
          refine T_r ?_
          replace S := S.front1
          replace S := S.front1
          have hpre : [] = stL x0 x1 x2 := by (first | exact st_none (by omega) | exact stL_up (by omega) (by omega) (by omega) | exact stL_dn (by omega) (by omega) (by omega) | exact (st_none (by omega)).symm | exact (stL_up (by omega) (by omega) (by omega)).symm | exact (stL_dn (by omega) (by omega) (by omega)).symm)
          rw [hpre] at hJ
          exact F_retM0 E S Try.results14 (fun w S => ⟨_, rfl, M1, _, (Hp.le.refl _), .inl hJ, S⟩)
        · replace hc_4 := of_decide_eq_false hc_4
          refine WP_skip ?_
          refine T_n ?_
          refine WP_seq ?_
          refine WP_region ?_
          refine S_v E rfl (R_loadM E rfl Try.isAgg3 S.imm (cellM_box hbx1)) rfl ?_
          clear E a; intro a E
          refine S_v E rfl (R_assign E rfl) rfl ?_
          clear E a; intro a E
          refine WL_nil ?_
          refine T_n ?_
          refine WP_block ?_
          refine WP_loop (γ := Nat) (fun (k : Nat) a w => ∃ (M_5 : Hp) (cL0 : HProp), Hp.le M1 M_5 ∧ St w M_5 (mks [] :: cL0 :: H) ∧ Env a 43 (([] : List Nat).map mk) [(0, y), (1, .pointer (some ⟨bx1, 0, none⟩)), (2, .pointer (some ⟨bx2, 0, none⟩)), (3, .pointer (some ⟨bx3, 0, none⟩)), (5, .int .i64 (x0 + (k : Int) * x2))] ∧ (k = 0 ∨ x0 + (k : Int) * x2 - x2 < x1) ∧ J (rsL x0 x2 k) M_5 cL0) (fun k => (x1 - (x0 + (k : Int) * x2)).toNat) 0 ⟨M1, _, Hp.le.refl _, S, E.keep ⟨rfl, rfl, rfl, rfl, look_int (i := x0) rfl (by (simp)), trivial⟩, (by left; rfl), J_eq hJ (by (first | rfl | (exfalso; omega)))⟩ ?_
          try clear E
          try clear S
          try clear a
          try clear w
          rintro k a w ⟨M_5, cL0, hM_5, S, E, hL0_0, hJ⟩
          replace hbx1 := hM_5.2 _ _ hbx1
          replace hbx2 := hM_5.2 _ _ hbx2
          replace hbx3 := hM_5.2 _ _ hbx3
          have hkx := rs_k_up (s := x2) (by omega) k
          refine WP_seq ?_
          refine WP_seq ?_
          refine WP_region ?_
          refine S_v E rfl (R_move E rfl) rfl ?_
          clear E a; intro a E
          refine S_v E rfl (R_loadM E rfl Try.isAgg3 S.imm (cellM_box hbx2)) rfl ?_
          clear E a; intro a E
          refine S_v E rfl (R_lss E rfl rfl) rfl ?_
          clear E a; intro a E
          refine WL_nil ?_
          refine T_n ?_
          refine WP_cond E rfl (fun hc_6 => ?_) (fun hc_6 => ?_)
          · replace hc_6 := of_decide_eq_true hc_6
            refine WP_skip ?_
            refine T_n ?_
            refine WP_seq ?_
            refine WP_block ?_
            refine WP_seq ?_
            refine WP_region ?_
            refine S_v E rfl (R_move E rfl) rfl ?_
            clear E a; intro a E
            refine S_v E rfl (R_move E rfl) rfl ?_
            clear E a; intro a E
            replace S := S.front1
            refine S_x (X_yield (x := x0 + (k : Int) * x2) E S rfl rfl rfl hY hM_5 (by (first | exact st_tell_up (by omega) (by omega) | exact st_tell_dn (by omega) (by omega))) rfl hJ ?_)
            clear E a S; rintro a w M_7 c_8 go_9 hM_7 hJ S E
            replace hbx1 := hM_7.2 _ _ hbx1
            replace hbx2 := hM_7.2 _ _ hbx2
            replace hbx3 := hM_7.2 _ _ hbx3
            cases go_9
            · replace hJ : X (rsL x0 x2 k ++ [x0 + (k : Int) * x2]) M_7 c_8 := hJ
              refine S_v E rfl (R_not E rfl) rfl ?_
              clear E a; intro a E
              refine WL_nil ?_
              refine T_n ?_
              refine WP_condT E rfl rfl ?_
              refine WP_ret ?_
              refine B_r ?_
              refine T_r ?_
              refine T_r ?_
              refine B_r ?_
              refine T_r ?_
              replace S := S.front1
              exact F_retM0 E S Try.results14 (fun w S => ⟨_, rfl, M_7, _, (hM_5.trans hM_7), .inr ⟨(rsL x0 x2 k ++ [x0 + (k : Int) * x2]), (by first | assumption | ((first | exact st_tell_up (by omega) (by omega) | exact st_tell_dn (by omega) (by omega)))), hJ⟩, S⟩)
            · replace hJ : J (rsL x0 x2 k ++ [x0 + (k : Int) * x2]) M_7 c_8 := hJ
              refine S_v E rfl (R_not E rfl) rfl ?_
              clear E a; intro a E
              refine WL_nil ?_
              refine T_n ?_
              refine WP_condF E rfl rfl ?_
              refine WP_skip ?_
              refine B_n ?_
              refine T_n ?_
              refine WP_region ?_
              refine S_v E rfl (R_move E rfl) rfl ?_
              clear E a; intro a E
              refine S_v E rfl (R_loadM E rfl Try.isAgg3 S.imm (cellM_box hbx3)) rfl ?_
              clear E a; intro a E
              refine S_v E rfl (R_addx (m := (x0 + (k : Int) * x2) + x2) E rfl rfl (by omega) (by omega)) rfl ?_
              clear E a; intro a E
              refine S_v E rfl (R_assign E rfl) rfl ?_
              clear E a; intro a E
              refine WL_nil ?_
              refine T_n ?_
              replace S := S.front1
              exact ⟨k + 1, ⟨M_7, _, (hM_5.trans hM_7), S, E.keep ⟨rfl, rfl, rfl, rfl, look_int (i := (x0 + (k : Int) * x2) + x2) rfl (by (have h9 := rs_next x0 x2 k; omega)), trivial⟩, (by right; have h9 := rs_next x0 x2 k; omega), J_eq hJ (by (exact rsL_succ x0 x2 k))⟩, (by have h9 := rs_next x0 x2 k; omega)⟩
          · replace hc_6 := of_decide_eq_false hc_6
            refine WP_exit ?_
            refine T_x ?_
            refine T_x ?_
            refine B_x ?_
            refine T_n ?_
            refine WP_seq ?_
            refine WP_seq ?_
            refine WP_region ?_
            refine S_v E rfl (R_loadM E rfl Try.isAgg3 S.imm (cellM_box hbx3)) rfl ?_
            clear E a; intro a E
            refine S_v E rfl (R_gtr E rfl rfl) rfl ?_
            clear E a; intro a E
            refine WL_nil ?_
            refine T_n ?_
            refine WP_cond E rfl (fun hc_10 => ?_) (fun hc_10 => ?_)
            · replace hc_10 := of_decide_eq_true hc_10
              refine WP_ret ?_
              refine T_r ?_
              replace S := S.front1
              replace S := S.front1
              have hpre : rsL x0 x2 k = stL x0 x1 x2 := by (first | exact st_none (by omega) | exact stL_up (by omega) (by omega) (by omega) | exact stL_dn (by omega) (by omega) (by omega) | exact (st_none (by omega)).symm | exact (stL_up (by omega) (by omega) (by omega)).symm | exact (stL_dn (by omega) (by omega) (by omega)).symm)
              rw [hpre] at hJ
              exact F_retM0 E S Try.results14 (fun w S => ⟨_, rfl, M_5, _, hM_5, .inl hJ, S⟩)
            · replace hc_10 := of_decide_eq_false hc_10
              refine WP_skip ?_
              refine T_n ?_
              refine WP_seq ?_
              refine WP_region ?_
              refine S_v E rfl (R_loadM E rfl Try.isAgg3 S.imm (cellM_box hbx1)) rfl ?_
              clear E a; intro a E
              refine S_v E rfl (R_assign E rfl) rfl ?_
              clear E a; intro a E
              refine WL_nil ?_
              refine T_n ?_
              refine WP_block ?_
              refine WP_loop (γ := Nat) (fun (k : Nat) a w => ∃ (M_11 : Hp) (cL1 : HProp), Hp.le M_5 M_11 ∧ St w M_11 (mks [] :: cL1 :: H) ∧ Env a 43 (([] : List Nat).map mk) [(0, y), (2, .pointer (some ⟨bx2, 0, none⟩)), (3, .pointer (some ⟨bx3, 0, none⟩)), (6, .int .i64 (x0 + (k : Int) * x2))] ∧ (k = 0 ∨ x1 < x0 + (k : Int) * x2 - x2) ∧ J (rsL x0 x2 k) M_11 cL1) (fun k => (x0 + (k : Int) * x2 - x1).toNat) 0 ⟨M_5, _, Hp.le.refl _, S, E.keep ⟨rfl, rfl, rfl, look_int (i := x0) rfl (by (simp)), trivial⟩, (by left; rfl), J_eq hJ (by (first | rfl | (exfalso; omega)))⟩ ?_
              try clear E
              try clear S
              try clear a
              try clear w
              rintro k a w ⟨M_11, cL1, hM_11, S, E, hL1_0, hJ⟩
              replace hbx1 := hM_11.2 _ _ hbx1
              replace hbx2 := hM_11.2 _ _ hbx2
              replace hbx3 := hM_11.2 _ _ hbx3
              have hkx := rs_k_dn (s := x2) (by omega) k
              refine WP_seq ?_
              refine WP_seq ?_
              refine WP_region ?_
              refine S_v E rfl (R_move E rfl) rfl ?_
              clear E a; intro a E
              refine S_v E rfl (R_loadM E rfl Try.isAgg3 S.imm (cellM_box hbx2)) rfl ?_
              clear E a; intro a E
              refine S_v E rfl (R_gtr E rfl rfl) rfl ?_
              clear E a; intro a E
              refine WL_nil ?_
              refine T_n ?_
              refine WP_cond E rfl (fun hc_12 => ?_) (fun hc_12 => ?_)
              · replace hc_12 := of_decide_eq_true hc_12
                refine WP_skip ?_
                refine T_n ?_
                refine WP_seq ?_
                refine WP_block ?_
                refine WP_seq ?_
                refine WP_region ?_
                refine S_v E rfl (R_move E rfl) rfl ?_
                clear E a; intro a E
                refine S_v E rfl (R_move E rfl) rfl ?_
                clear E a; intro a E
                replace S := S.front1
                refine S_x (X_yield (x := x0 + (k : Int) * x2) E S rfl rfl rfl hY (hM_5.trans hM_11) (by (first | exact st_tell_up (by omega) (by omega) | exact st_tell_dn (by omega) (by omega))) rfl hJ ?_)
                clear E a S; rintro a w M_13 c_14 go_15 hM_13 hJ S E
                replace hbx1 := hM_13.2 _ _ hbx1
                replace hbx2 := hM_13.2 _ _ hbx2
                replace hbx3 := hM_13.2 _ _ hbx3
                cases go_15
                · replace hJ : X (rsL x0 x2 k ++ [x0 + (k : Int) * x2]) M_13 c_14 := hJ
                  refine S_v E rfl (R_not E rfl) rfl ?_
                  clear E a; intro a E
                  refine WL_nil ?_
                  refine T_n ?_
                  refine WP_condT E rfl rfl ?_
                  refine WP_ret ?_
                  refine B_r ?_
                  refine T_r ?_
                  refine T_r ?_
                  refine B_r ?_
                  replace S := S.front1
                  exact F_retM0 E S Try.results14 (fun w S => ⟨_, rfl, M_13, _, (hM_5.trans (hM_11.trans hM_13)), .inr ⟨(rsL x0 x2 k ++ [x0 + (k : Int) * x2]), (by first | assumption | ((first | exact st_tell_up (by omega) (by omega) | exact st_tell_dn (by omega) (by omega)))), hJ⟩, S⟩)
                · replace hJ : J (rsL x0 x2 k ++ [x0 + (k : Int) * x2]) M_13 c_14 := hJ
                  refine S_v E rfl (R_not E rfl) rfl ?_
                  clear E a; intro a E
                  refine WL_nil ?_
                  refine T_n ?_
                  refine WP_condF E rfl rfl ?_
                  refine WP_skip ?_
                  refine B_n ?_
                  refine T_n ?_
                  refine WP_region ?_
                  refine S_v E rfl (R_move E rfl) rfl ?_
                  clear E a; intro a E
                  refine S_v E rfl (R_loadM E rfl Try.isAgg3 S.imm (cellM_box hbx3)) rfl ?_
                  clear E a; intro a E
                  refine S_v E rfl (R_addx (m := (x0 + (k : Int) * x2) + x2) E rfl rfl (by omega) (by omega)) rfl ?_
                  clear E a; intro a E
                  refine S_v E rfl (R_assign E rfl) rfl ?_
                  clear E a; intro a E
                  refine WL_nil ?_
                  refine T_n ?_
                  replace S := S.front1
                  exact ⟨k + 1, ⟨M_13, _, (hM_11.trans hM_13), S, E.keep ⟨rfl, rfl, rfl, look_int (i := (x0 + (k : Int) * x2) + x2) rfl (by (have h9 := rs_next x0 x2 k; omega)), trivial⟩, (by right; have h9 := rs_next x0 x2 k; omega), J_eq hJ (by (exact rsL_succ x0 x2 k))⟩, (by have h9 := rs_next x0 x2 k; omega)⟩
              · replace hc_12 := of_decide_eq_false hc_12
                refine WP_exit ?_
                refine T_x ?_
                refine T_x ?_
                refine B_x ?_
                refine F_nrm ?_
                replace S := S.front1
                replace S := S.front1
                have hpre : rsL x0 x2 k = stL x0 x1 x2 := by (first | exact st_none (by omega) | exact stL_up (by omega) (by omega) (by omega) | exact stL_dn (by omega) (by omega) (by omega) | exact (st_none (by omega)).symm | exact (stL_up (by omega) (by omega) (by omega)).symm | exact (stL_dn (by omega) (by omega) (by omega)).symm)
                rw [hpre] at hJ
                exact F_retM0 E S Try.results14 (fun w S => ⟨_, rfl, M_11, _, (hM_5.trans hM_11), .inl hJ, S⟩)
      · replace hc_3 := of_decide_eq_false hc_3
        refine WP_skip ?_
        refine T_n ?_
        refine WP_seq ?_
        refine WP_seq ?_
        refine WP_region ?_
        refine S_v E rfl (R_loadM E rfl Try.isAgg3 S.imm (cellM_box hbx3)) rfl ?_
        clear E a; intro a E
        refine S_v E rfl (R_gtr E rfl rfl) rfl ?_
        clear E a; intro a E
        refine WL_nil ?_
        refine T_n ?_
        refine WP_cond E rfl (fun hc_16 => ?_) (fun hc_16 => ?_)
        · replace hc_16 := of_decide_eq_true hc_16
          refine WP_ret ?_
          refine T_r ?_
          replace S := S.front1
          replace S := S.front1
          have hpre : [] = stL x0 x1 x2 := by (first | exact st_none (by omega) | exact stL_up (by omega) (by omega) (by omega) | exact stL_dn (by omega) (by omega) (by omega) | exact (st_none (by omega)).symm | exact (stL_up (by omega) (by omega) (by omega)).symm | exact (stL_dn (by omega) (by omega) (by omega)).symm)
          rw [hpre] at hJ
          exact F_retM0 E S Try.results14 (fun w S => ⟨_, rfl, M1, _, (Hp.le.refl _), .inl hJ, S⟩)
        · replace hc_16 := of_decide_eq_false hc_16
          refine WP_skip ?_
          refine T_n ?_
          refine WP_seq ?_
          refine WP_region ?_
          refine S_v E rfl (R_loadM E rfl Try.isAgg3 S.imm (cellM_box hbx1)) rfl ?_
          clear E a; intro a E
          refine S_v E rfl (R_assign E rfl) rfl ?_
          clear E a; intro a E
          refine WL_nil ?_
          refine T_n ?_
          refine WP_block ?_
          refine WP_loop (γ := Nat) (fun (k : Nat) a w => ∃ (M_17 : Hp) (cL1 : HProp), Hp.le M1 M_17 ∧ St w M_17 (mks [] :: cL1 :: H) ∧ Env a 43 (([] : List Nat).map mk) [(0, y), (2, .pointer (some ⟨bx2, 0, none⟩)), (3, .pointer (some ⟨bx3, 0, none⟩)), (6, .int .i64 (x0 + (k : Int) * x2))] ∧ (k = 0 ∨ x1 < x0 + (k : Int) * x2 - x2) ∧ J (rsL x0 x2 k) M_17 cL1) (fun k => (x0 + (k : Int) * x2 - x1).toNat) 0 ⟨M1, _, Hp.le.refl _, S, E.keep ⟨rfl, rfl, rfl, look_int (i := x0) rfl (by (simp)), trivial⟩, (by left; rfl), J_eq hJ (by (first | rfl | (exfalso; omega)))⟩ ?_
          try clear E
          try clear S
          try clear a
          try clear w
          rintro k a w ⟨M_17, cL1, hM_17, S, E, hL1_0, hJ⟩
          replace hbx1 := hM_17.2 _ _ hbx1
          replace hbx2 := hM_17.2 _ _ hbx2
          replace hbx3 := hM_17.2 _ _ hbx3
          have hkx := rs_k_dn (s := x2) (by omega) k
          refine WP_seq ?_
          refine WP_seq ?_
          refine WP_region ?_
          refine S_v E rfl (R_move E rfl) rfl ?_
          clear E a; intro a E
          refine S_v E rfl (R_loadM E rfl Try.isAgg3 S.imm (cellM_box hbx2)) rfl ?_
          clear E a; intro a E
          refine S_v E rfl (R_gtr E rfl rfl) rfl ?_
          clear E a; intro a E
          refine WL_nil ?_
          refine T_n ?_
          refine WP_cond E rfl (fun hc_18 => ?_) (fun hc_18 => ?_)
          · replace hc_18 := of_decide_eq_true hc_18
            refine WP_skip ?_
            refine T_n ?_
            refine WP_seq ?_
            refine WP_block ?_
            refine WP_seq ?_
            refine WP_region ?_
            refine S_v E rfl (R_move E rfl) rfl ?_
            clear E a; intro a E
            refine S_v E rfl (R_move E rfl) rfl ?_
            clear E a; intro a E
            replace S := S.front1
            refine S_x (X_yield (x := x0 + (k : Int) * x2) E S rfl rfl rfl hY hM_17 (by (first | exact st_tell_up (by omega) (by omega) | exact st_tell_dn (by omega) (by omega))) rfl hJ ?_)
            clear E a S; rintro a w M_19 c_20 go_21 hM_19 hJ S E
            replace hbx1 := hM_19.2 _ _ hbx1
            replace hbx2 := hM_19.2 _ _ hbx2
            replace hbx3 := hM_19.2 _ _ hbx3
            cases go_21
            · replace hJ : X (rsL x0 x2 k ++ [x0 + (k : Int) * x2]) M_19 c_20 := hJ
              refine S_v E rfl (R_not E rfl) rfl ?_
              clear E a; intro a E
              refine WL_nil ?_
              refine T_n ?_
              refine WP_condT E rfl rfl ?_
              refine WP_ret ?_
              refine B_r ?_
              refine T_r ?_
              refine T_r ?_
              refine B_r ?_
              replace S := S.front1
              exact F_retM0 E S Try.results14 (fun w S => ⟨_, rfl, M_19, _, (hM_17.trans hM_19), .inr ⟨(rsL x0 x2 k ++ [x0 + (k : Int) * x2]), (by first | assumption | ((first | exact st_tell_up (by omega) (by omega) | exact st_tell_dn (by omega) (by omega)))), hJ⟩, S⟩)
            · replace hJ : J (rsL x0 x2 k ++ [x0 + (k : Int) * x2]) M_19 c_20 := hJ
              refine S_v E rfl (R_not E rfl) rfl ?_
              clear E a; intro a E
              refine WL_nil ?_
              refine T_n ?_
              refine WP_condF E rfl rfl ?_
              refine WP_skip ?_
              refine B_n ?_
              refine T_n ?_
              refine WP_region ?_
              refine S_v E rfl (R_move E rfl) rfl ?_
              clear E a; intro a E
              refine S_v E rfl (R_loadM E rfl Try.isAgg3 S.imm (cellM_box hbx3)) rfl ?_
              clear E a; intro a E
              refine S_v E rfl (R_addx (m := (x0 + (k : Int) * x2) + x2) E rfl rfl (by omega) (by omega)) rfl ?_
              clear E a; intro a E
              refine S_v E rfl (R_assign E rfl) rfl ?_
              clear E a; intro a E
              refine WL_nil ?_
              refine T_n ?_
              replace S := S.front1
              exact ⟨k + 1, ⟨M_19, _, (hM_17.trans hM_19), S, E.keep ⟨rfl, rfl, rfl, look_int (i := (x0 + (k : Int) * x2) + x2) rfl (by (have h9 := rs_next x0 x2 k; omega)), trivial⟩, (by right; have h9 := rs_next x0 x2 k; omega), J_eq hJ (by (exact rsL_succ x0 x2 k))⟩, (by have h9 := rs_next x0 x2 k; omega)⟩
          · replace hc_18 := of_decide_eq_false hc_18
            refine WP_exit ?_
            refine T_x ?_
            refine T_x ?_
            refine B_x ?_
            refine F_nrm ?_
            replace S := S.front1
            replace S := S.front1
            have hpre : rsL x0 x2 k = stL x0 x1 x2 := by (first | exact st_none (by omega) | exact stL_up (by omega) (by omega) (by omega) | exact stL_dn (by omega) (by omega) (by omega) | exact (st_none (by omega)).symm | exact (stL_up (by omega) (by omega) (by omega)).symm | exact (stL_dn (by omega) (by omega) (by omega)).symm)
            rw [hpre] at hJ
            exact F_retM0 E S Try.results14 (fun w S => ⟨_, rfl, M_17, _, hM_17, .inl hJ, S⟩)

set_option maxRecDepth 100000 in
set_option maxHeartbeats 4000000 in
theorem it_RangeWithSteps {M : Hp} {x0 x1 x2 : Int} (g0 : -32768 ≤ x0 ∧ x0 ≤ 32767) (g1 : -32768 ≤ x1 ∧ x1 ≤ 32767) (g2 : -128 ≤ x2 ∧ x2 ≤ 127) :
    Pu Try.prog (.func (.func 10) #[] #[]) M [.int .i64 x0, .int .i64 x1, .int .i64 x2] (fun r M' => SeqV Try.prog r M' RInt (stL x0 x1 x2)) := by
  refine Pu_enter Try.func10 rfl Try.ntmps10 rfl Try.call10 ?_
  intro a w M1 H hM1 S E
  refine WP_seq ?_
  refine WP_region ?_
  refine S_x (X_box (cs := #[.int .i64 x0]) E S rfl rfl rfl ?_)
  clear E a S; rintro a w b_1 E S
  obtain ⟨M_2, hM_2, hb_1, S⟩ := S.freezeB
  refine S_x (X_box (cs := #[.int .i64 x1]) E S rfl rfl rfl ?_)
  clear E a S; rintro a w b_3 E S
  obtain ⟨M_4, hM_4, hb_3, S⟩ := S.freezeB
  replace hb_1 := hM_4.2 _ _ hb_1
  refine S_x (X_box (cs := #[.int .i64 x2]) E S rfl rfl rfl ?_)
  clear E a S; rintro a w b_5 E S
  obtain ⟨M_6, hM_6, hb_5, S⟩ := S.freezeB
  replace hb_1 := hM_6.2 _ _ hb_1
  replace hb_3 := hM_6.2 _ _ hb_3
  refine S_v E rfl (R_assign E rfl) rfl ?_
  clear E a; intro a E
  refine WL_nil ?_
  refine T_n ?_
  refine WP_seq ?_
  refine WP_region ?_
  refine S_v E rfl (R_makeFunc E rfl rfl) rfl ?_
  clear E a; intro a E
  refine S_v E rfl (R_assign E rfl) rfl ?_
  clear E a; intro a E
  refine WL_nil ?_
  refine T_n ?_
  refine WP_ret ?_
  exact F_ret1 E Try.results10 rfl ⟨_, rfl, M_6, (hM_2.trans (hM_4.trans hM_6)), (SeqV_eq (it_RangeWithSteps1 (by omega) (by omega) (by omega) hb_1 hb_3 hb_5) (by ((try clear S); (try clear E); first | rfl | (simp; done) | (simp_all; done) | grind [List.take_add_one]))), S⟩

set_option maxRecDepth 100000 in
set_option maxHeartbeats 4000000 in
theorem slices_AppendSeq {M : Hp} {v1 : Value} {l1 : List Int} (h1 : SeqV Try.prog v1 M (RInt) l1)(hb : l1.length ≤ 1000000000000) :
    Pu Try.prog (.func (.func 13) #[] #[]) M [.slice none 0 0, v1] (fun r M' => RdI M' r l1) := by
  refine Pu_enter Try.func13 rfl Try.ntmps13 rfl Try.call13 ?_
  intro a w M1 H hM1 S E
  replace h1 := h1.le hM1
  replace S : St w M1 (mks [] :: _) := S.empty
  replace E : Env a 13 (([] : List Nat).map mk) _ := E
  refine WP_seq ?_
  refine WP_region ?_
  refine S_x (X_box (cs := #[.slice none 0 0]) E S rfl rfl rfl ?_)
  clear E a S; rintro a w b_1 E S
  refine S_v E rfl (R_assign E rfl) rfl ?_
  clear E a; intro a E
  refine WL_nil ?_
  refine T_n ?_
  refine WP_seq ?_
  refine WP_seq ?_
  refine WP_region ?_
  refine S_v E rfl (R_move E rfl) rfl ?_
  clear E a; intro a E
  refine WL_nil ?_
  refine T_n ?_
  refine WP_block ?_
  replace S := (S.ownNil (e := 3) (sz := 1)).made0
  replace S := S.front1
  replace E := E.keep (l' := [(2, .pointer (some ⟨b_1, 0, none⟩)), (6, v1)]) ⟨rfl, rfl, trivial⟩
  replace S := S.front1
  replace S := S.re1 (l' := ([] : List Int)) (by ((try clear S); (try clear E); first | assumption | omega | rfl | (simp; done) | (simp_all; done) | (simp [List.take_add_one, *]; done) | grind [List.take_add_one]))
  replace S := S.front1
  have S0 := S; clear S; have S := St.pack [blk b_1 (.cells #[(.slice none 0 0)] 24), OwnI 3 (.slice none 0 0) ([] : List Int)] S0; clear S0
  refine WP_range (RV := RInt) (l := l1) (fun pre M c => ∃ (u2 : Value), c = bigs [blk b_1 (.cells #[u2] 24), OwnI 3 u2 pre]) (fun _ _ _ _ => False) E S rfl h1 (Hp.le.refl _) (fun _ _ _ h => by rw [h]; rfl) (by decide) (by rintro _ M M' c hM ⟨u2, rfl⟩; exact ⟨_, rfl⟩) ⟨_, rfl⟩ ?_ ?_ ?_
  clear E S
  · rintro lb_4 rec_5 pre x _ a w M_3 _ G hM_3 hp_6 rfl ⟨u2, rfl⟩ E S
    replace E : Env a 13 [] [(7, .int .i64 x), (2, .pointer (some ⟨b_1, 0, none⟩)), (6, v1)] := E
    replace S := S.swap.unpack2
    have hq0 := prefix_lt hp_6
    replace h1 := h1.le hM_3
    refine WP_region ?_
    refine S_v E rfl (R_assign E rfl) rfl ?_
    clear E a; intro a E
    refine WL_nil ?_
    refine T_n ?_
    replace S := S.front2
    refine rb S ?_
    clear S; intro w S
    refine WP_block ?_
    refine WP_region ?_
    refine S_v E rfl (R_load E rfl (Try.isAgg24 _) (cell_blk (S.mem (.tail _ (.head _))))) rfl ?_
    clear E a; intro a E
    refine S_v E rfl (R_move E rfl) rfl ?_
    clear E a; intro a E
    refine S_x (X_buildI (ys := [x]) E S rfl T24 rfl rfl rfl ?_)
    clear E a S; rintro a w v_8 E S
    replace S := S.front3
    replace S := S.front1
    refine S_x (X_appendB (xs := pre) (ys := [x]) E S rfl rfl rfl T24 (by first | omega | (simp; done) | (simp; omega) | (simp_all; omega)) ?_)
    clear E a S; rintro a w v_9 E S
    have ho_10 := S.oneI
    replace S := S.front2
    refine S_x0 (X_store E S rfl rfl (Try.sizeOf24 _) ho_10 ?_)
    clear E a S; rintro a w E S
    refine WL_nil ?_
    refine B_n ?_
    replace S := S.front1
    replace S := S.front1
    replace S := S.front1
    replace S := S.front1
    have S0 := S; clear S; have S := (St.pack [blk b_1 (.cells #[v_9] 24), OwnI 3 v_9 (pre ++ [x])] S0).swap; clear S0
    exact ⟨M_3, _, (Hp.le.refl _), ⟨_, rfl⟩, S⟩
  · rintro a w M_11 _ D_12 hM_11 ⟨u2, rfl⟩ S E
    replace S := S.unpack2
    replace h1 := h1.le hM_11
    refine B_n ?_
    refine T_n ?_
    refine WP_seq ?_
    refine WP_region ?_
    refine S_v E rfl (R_load E rfl (Try.isAgg24 _) (cell_blk (S.mem (.head _)))) rfl ?_
    clear E a; intro a E
    refine S_v E rfl (R_assign E rfl) rfl ?_
    clear E a; intro a E
    refine WL_nil ?_
    refine T_n ?_
    refine WP_ret ?_
    replace S := S.front1
    have S0 := S; clear S
    obtain ⟨M_13, hM_13, hz_14, S⟩ := S0.freezeI (by (first | omega | (simp; omega) | (simp; done) | (simp_all; omega) | grind))
    clear S0
    replace h1 := h1.le hM_13
    replace S := S.drop
    exact F_retM1 E S Try.results13 rfl (fun w S => ⟨_, rfl, M_13, (hM_11.trans hM_13), hz_14, S⟩)
  · rintro _ _ _ _ _ _ _ _ _ hX; exact hX.elim

set_option maxRecDepth 100000 in
set_option maxHeartbeats 4000000 in
theorem slices_Collect {M : Hp} {v0 : Value} {l0 : List Int} (h0 : SeqV Try.prog v0 M (RInt) l0)(hb : l0.length ≤ 1000000000000) :
    Pu Try.prog (.func (.func 9) #[] #[]) M [v0] (fun r M' => RdI M' r l0) := by
  refine Pu_enter Try.func9 rfl Try.ntmps9 rfl Try.call9 ?_
  intro a w M1 H hM1 S E
  replace h0 := h0.le hM1
  refine WP_seq ?_
  refine WP_region ?_
  refine S_v E rfl (R_assign E rfl) rfl ?_
  clear E a; intro a E
  refine WL_nil ?_
  refine T_n ?_
  refine WP_seq ?_
  refine WP_region ?_
  refine S_v E rfl (R_move E rfl) rfl ?_
  clear E a; intro a E
  refine S_x (X_pu E S rfl rfl rfl (slices_AppendSeq h0 (by first | omega | (first | omega | (simp; omega) | (simp; done) | (simp_all; omega) | grind))) (Hp.le.refl _) ?_)
  clear E a S; rintro a v_2 w M_1 hM_1 hv_2 S E
  replace h0 := h0.le hM_1
  refine S_v E rfl (R_assign E rfl) rfl ?_
  clear E a; intro a E
  refine WL_nil ?_
  refine T_n ?_
  refine WP_ret ?_
  exact F_ret1 E Try.results9 rfl ⟨_, rfl, M_1, hM_1, hv_2, S⟩

set_option maxRecDepth 100000 in
set_option maxHeartbeats 4000000 in
theorem impl_RangeWithStepsSeq {M : Hp} {x0 x1 x2 : Int} (g0 : -32768 ≤ x0 ∧ x0 ≤ 32767) (g1 : -32768 ≤ x1 ∧ x1 ≤ 32767) (g2 : -128 ≤ x2 ∧ x2 ≤ 127) :
    Pu Try.prog (.func (.func 7) #[] #[]) M [.int .i64 x0, .int .i64 x1, .int .i64 x2] (fun r M' => RdI M' r (stL x0 x1 x2)) := by
  refine Pu_enter Try.func7 rfl Try.ntmps7 rfl Try.call7 ?_
  intro a w M1 H hM1 S E
  have hsl := st_len (a := x0) (e := x1) (s := x2) (by omega) (by omega)
  refine WP_seq ?_
  refine WP_region ?_
  refine S_v E rfl (R_assign E rfl) rfl ?_
  clear E a; intro a E
  refine WL_nil ?_
  refine T_n ?_
  refine WP_seq ?_
  refine WP_region ?_
  refine S_v E rfl (R_move E rfl) rfl ?_
  clear E a; intro a E
  refine S_v E rfl (R_move E rfl) rfl ?_
  clear E a; intro a E
  refine S_v E rfl (R_move E rfl) rfl ?_
  clear E a; intro a E
  refine S_x (X_pu E S rfl rfl rfl (it_RangeWithSteps (by omega) (by omega) (by omega)) (Hp.le.refl _) ?_)
  clear E a S; rintro a v_2 w M_1 hM_1 hv_2 S E
  refine S_x (X_pu E S rfl rfl rfl (slices_Collect hv_2 (by first | omega | (first | omega | (simp; omega) | (simp; done) | (simp_all; omega) | grind))) (Hp.le.refl _) ?_)
  clear E a S; rintro a v_4 w M_3 hM_3 hv_4 S E
  replace hv_2 := hv_2.le hM_3
  refine S_v E rfl (R_assign E rfl) rfl ?_
  clear E a; intro a E
  refine WL_nil ?_
  refine T_n ?_
  refine WP_ret ?_
  exact F_ret1 E Try.results7 rfl ⟨_, rfl, M_3, (hM_1.trans hM_3), hv_4, S⟩

set_option maxRecDepth 100000 in
set_option maxHeartbeats 4000000 in
theorem laws_FnRangeSteps {M : Hp} {x0 x1 x2 : Int} (g0 : -32768 ≤ x0 ∧ x0 ≤ 32767) (g1 : -32768 ≤ x1 ∧ x1 ≤ 32767) (g2 : -128 ≤ x2 ∧ x2 ≤ 127) :
    PuC Try.prog 3 M [.int .i16 x0, .int .i16 x1, .int .i8 x2] (fun r M' => r = .bool true) := by
  refine PuC_enter Try.func3 rfl Try.ntmps3 rfl ?_
  intro a w M1 H hM1 S E
  refine WP_seq ?_
  refine WP_region ?_
  refine S_v E rfl (R_assign E rfl) rfl ?_
  clear E a; intro a E
  refine WL_nil ?_
  refine T_n ?_
  refine WP_seq ?_
  refine WP_seq ?_
  refine WP_region ?_
  refine S_x (X_pu E S rfl rfl rfl (impl_RangeWithSteps (by omega) (by omega) (by omega)) (Hp.le.refl _) ?_)
  clear E a S; rintro a v_2 w M_1 hM_1 hv_2 S E
  refine S_v E rfl (R_lenV E rfl T24 hv_2.len) rfl ?_
  clear E a; intro a E
  refine S_v E rfl (R_neq E rfl rfl) rfl ?_
  clear E a; intro a E
  refine WL_nil ?_
  refine T_n ?_
  have hc_3 : (decide ((((stL 0 2 1).length : Nat) : Int) ≠ 2)) = false := by (clear S E; first | (simp; done) | decide | (first | refine dec_t ?_ | refine dec_f ?_ | skip); first | rfl | omega | (simp only [stL, rsL_len]; decide) | (have h9 := stL_at (show (stL x0 x1 x2)[_]? = some _ by assumption); first | omega | (refine decide_eq_false ?_; omega)))
  refine WP_condF E rfl hc_3 ?_
  refine WP_skip ?_
  refine T_n ?_
  refine WP_seq ?_
  refine WP_region ?_
  refine S_v E rfl (R_move E rfl) rfl ?_
  clear E a; intro a E
  refine S_v E rfl (R_convx E rfl Try.underlying22 Try.underlying3 (by omega)) rfl ?_
  clear E a; intro a E
  refine S_v E rfl (R_move E rfl) rfl ?_
  clear E a; intro a E
  refine S_v E rfl (R_convx E rfl Try.underlying22 Try.underlying3 (by omega)) rfl ?_
  clear E a; intro a E
  refine S_v E rfl (R_move E rfl) rfl ?_
  clear E a; intro a E
  refine S_v E rfl (R_convx E rfl Try.underlying23 Try.underlying3 (by omega)) rfl ?_
  clear E a; intro a E
  refine S_x (X_pu E S rfl rfl rfl (impl_RangeWithSteps (by omega) (by omega) (by omega)) (Hp.le.refl _) ?_)
  clear E a S; rintro a v_5 w M_4 hM_4 hv_5 S E
  replace hv_2 := hv_2.le hM_4
  refine S_v E rfl (R_assign E rfl) rfl ?_
  clear E a; intro a E
  refine WL_nil ?_
  refine T_n ?_
  refine WP_seq ?_
  refine WP_region ?_
  refine S_v E rfl (R_move E rfl) rfl ?_
  clear E a; intro a E
  refine S_v E rfl (R_convx E rfl Try.underlying22 Try.underlying3 (by omega)) rfl ?_
  clear E a; intro a E
  refine S_v E rfl (R_move E rfl) rfl ?_
  clear E a; intro a E
  refine S_v E rfl (R_convx E rfl Try.underlying22 Try.underlying3 (by omega)) rfl ?_
  clear E a; intro a E
  refine S_v E rfl (R_move E rfl) rfl ?_
  clear E a; intro a E
  refine S_v E rfl (R_convx E rfl Try.underlying23 Try.underlying3 (by omega)) rfl ?_
  clear E a; intro a E
  refine S_x (X_pu E S rfl rfl rfl (spec_RangeWithSteps (by omega) (by omega) (by omega)) (Hp.le.refl _) ?_)
  clear E a S; rintro a _ w M_6 hM_6 ⟨v_7, rfl, hv_7⟩ S E
  replace hv_2 := hv_2.le hM_6
  replace hv_5 := hv_5.le hM_6
  refine S_v E rfl (R_move E rfl) rfl ?_
  clear E a; intro a E
  refine S_v E rfl (R_extract E rfl rfl) rfl ?_
  clear E a; intro a E
  refine S_v E rfl (R_extract E rfl rfl) rfl ?_
  clear E a; intro a E
  refine S_v E rfl (R_assign E rfl) rfl ?_
  clear E a; intro a E
  refine S_v E rfl (R_assign E rfl) rfl ?_
  clear E a; intro a E
  refine WL_nil ?_
  refine T_n ?_
  refine WP_seq ?_
  refine WP_seq ?_
  refine WP_region ?_
  refine S_v E rfl (R_move E rfl) rfl ?_
  clear E a; intro a E
  refine S_v E rfl (R_eql E rfl rfl) rfl ?_
  clear E a; intro a E
  refine S_v E rfl (R_move E rfl) rfl ?_
  clear E a; intro a E
  refine split_bool (decide (1 = 1)) (fun hc_8 => ?_) (fun hc_8 => ?_)
  · replace E := E.val (t := 33) rfl hc_8
    replace E := E.val (t := 34) rfl hc_8
    replace hc_8 := of_decide_eq_true hc_8
    refine WL_guard_yes E rfl rfl ?_
    refine S_v E rfl (R_move E rfl) rfl ?_
    clear E a; intro a E
    refine WL_guard_yes E rfl rfl ?_
    refine S_v E rfl (R_move E rfl) rfl ?_
    clear E a; intro a E
    refine WL_guard_yes E rfl rfl ?_
    refine S_x (X_pu E S rfl rfl rfl (laws_eq hv_5 hv_7) (Hp.le.refl _) ?_)
    clear E a S; rintro a _ w M_9 hM_9 rfl S E
    replace hv_2 := hv_2.le hM_9
    replace hv_5 := hv_5.le hM_9
    replace hv_7 := hv_7.le hM_9
    refine WL_guard_yes E rfl rfl ?_
    refine S_v E rfl (R_not E rfl) rfl ?_
    clear E a; intro a E
    refine S_v E rfl (R_pickT E rfl rfl) rfl ?_
    clear E a; intro a E
    refine WL_nil ?_
    refine T_n ?_
    have hc_10 : (!(decide (stL x0 x1 x2 = stL x0 x1 x2))) = false := by (clear S E; first | (simp; done) | decide | (first | refine dec_t ?_ | refine dec_f ?_ | skip); first | rfl | omega | (simp only [stL, rsL_len]; decide) | (have h9 := stL_at (show (stL x0 x1 x2)[_]? = some _ by assumption); first | omega | (refine decide_eq_false ?_; omega)))
    refine WP_condF E rfl hc_10 ?_
    refine WP_skip ?_
    refine T_n ?_
    refine WP_seq ?_
    refine WP_seq ?_
    refine WP_region ?_
    refine S_v E rfl (R_move E rfl) rfl ?_
    clear E a; intro a E
    refine S_v E rfl (R_convx E rfl Try.underlying22 Try.underlying3 (by omega)) rfl ?_
    clear E a; intro a E
    refine S_v E rfl (R_move E rfl) rfl ?_
    clear E a; intro a E
    refine S_v E rfl (R_convx E rfl Try.underlying22 Try.underlying3 (by omega)) rfl ?_
    clear E a; intro a E
    refine S_v E rfl (R_move E rfl) rfl ?_
    clear E a; intro a E
    refine S_v E rfl (R_convx E rfl Try.underlying23 Try.underlying3 (by omega)) rfl ?_
    clear E a; intro a E
    refine S_x (X_pu E S rfl rfl rfl (impl_RangeWithStepsSeq (by omega) (by omega) (by omega)) (Hp.le.refl _) ?_)
    clear E a S; rintro a v_12 w M_11 hM_11 hv_12 S E
    replace hv_2 := hv_2.le hM_11
    replace hv_5 := hv_5.le hM_11
    replace hv_7 := hv_7.le hM_11
    refine S_v E rfl (R_move E rfl) rfl ?_
    clear E a; intro a E
    refine S_x (X_pu E S rfl rfl rfl (laws_eq hv_12 hv_5) (Hp.le.refl _) ?_)
    clear E a S; rintro a _ w M_13 hM_13 rfl S E
    replace hv_2 := hv_2.le hM_13
    replace hv_5 := hv_5.le hM_13
    replace hv_7 := hv_7.le hM_13
    replace hv_12 := hv_12.le hM_13
    refine S_v E rfl (R_not E rfl) rfl ?_
    clear E a; intro a E
    refine WL_nil ?_
    refine T_n ?_
    have hc_14 : (!(decide (stL x0 x1 x2 = stL x0 x1 x2))) = false := by (clear S E; first | (simp; done) | decide | (first | refine dec_t ?_ | refine dec_f ?_ | skip); first | rfl | omega | (simp only [stL, rsL_len]; decide) | (have h9 := stL_at (show (stL x0 x1 x2)[_]? = some _ by assumption); first | omega | (refine decide_eq_false ?_; omega)))
    refine WP_condF E rfl hc_14 ?_
    refine WP_skip ?_
    refine T_n ?_
    refine WP_seq ?_
    refine WP_seq ?_
    refine WP_region ?_
    refine S_v E rfl (R_move E rfl) rfl ?_
    clear E a; intro a E
    refine S_v E rfl (R_lenV E rfl T24 hv_5.len) rfl ?_
    clear E a; intro a E
    refine S_v E rfl (R_move E rfl) rfl ?_
    clear E a; intro a E
    refine WL_nil ?_
    refine T_n ?_
    refine WP_block ?_
    refine WP_loop (γ := Nat) (fun (k : Nat) a w => ∃ (M_15 : Hp), Hp.le M_13 M_15 ∧ St w M_15 (H) ∧ Env a 67 [] [(0, .int .i16 x0), (2, .int .i8 x2), (50, v_5), (51, .int .i64 (((stL x0 x1 x2).length : Nat) : Int)), (52, .int .i64 ((k : Nat) : Int))] ∧ (k ≤ (stL x0 x1 x2).length)) (fun k => ((stL x0 x1 x2).length) - k) 0 ⟨M_13, Hp.le.refl _, S, E.keep ⟨rfl, rfl, rfl, rfl, rfl, trivial⟩, by ((try clear S); (try clear E); first | assumption | omega | rfl | (simp; done) | (simp_all; done) | (simp [List.take_add_one, *]; done) | grind [List.take_add_one])⟩ ?_
    try clear E
    try clear S
    try clear a
    try clear w
    rintro k a w ⟨M_15, hM_15, S, E, hL0_0⟩
    replace hv_2 := hv_2.le hM_15
    replace hv_5 := hv_5.le hM_15
    replace hv_7 := hv_7.le hM_15
    replace hv_12 := hv_12.le hM_15
    have hsl := st_len (a := x0) (e := x1) (s := x2) (by omega) (by omega)
    refine WP_seq ?_
    refine WP_region ?_
    refine S_v E rfl (R_lss E rfl rfl) rfl ?_
    clear E a; intro a E
    refine WL_nil ?_
    refine T_n ?_
    refine WP_seq ?_
    refine WP_cond E rfl (fun hc_16 => ?_) (fun hc_16 => ?_)
    · replace hc_16 := of_decide_eq_true hc_16
      refine WP_skip ?_
      refine T_n ?_
      refine WP_seq ?_
      refine WP_block ?_
      refine WP_seq ?_
      refine WP_region ?_
      refine S_v E rfl (R_move E rfl) rfl ?_
      clear E a; intro a E
      obtain ⟨x_17, hx_17⟩ : ∃ x, (stL x0 x1 x2)[k]? = some x := ⟨_, List.getElem?_eq_getElem (by first | omega | (simp; done) | (simp; omega) | (simp_all; omega))⟩
      obtain ⟨p_18, hp_18, qp_18⟩ := hv_5.at hx_17
      refine S_v E rfl (R_idx E rfl rfl T24 hp_18 rfl) rfl ?_
      clear E a; intro a E
      refine S_v E rfl (R_loadM E rfl Try.isAgg3 S.imm qp_18) rfl ?_
      clear E a; intro a E
      refine S_v E rfl (R_assign E rfl) rfl ?_
      clear E a; intro a E
      refine S_v E rfl (R_assign E rfl) rfl ?_
      clear E a; intro a E
      refine WL_nil ?_
      refine T_n ?_
      refine WP_seq ?_
      refine WP_region ?_
      refine S_v E rfl (R_move E rfl) rfl ?_
      clear E a; intro a E
      refine S_v E rfl (R_move E rfl) rfl ?_
      clear E a; intro a E
      refine S_v E rfl (R_convx E rfl Try.underlying22 Try.underlying3 (by omega)) rfl ?_
      clear E a; intro a E
      refine S_v E rfl (R_move E rfl) rfl ?_
      clear E a; intro a E
      refine S_v E rfl (R_move E rfl) rfl ?_
      clear E a; intro a E
      refine S_v E rfl (R_convx E rfl Try.underlying23 Try.underlying3 (by omega)) rfl ?_
      clear E a; intro a E
      refine S_v E rfl (R_mulx (m := ((k : Nat) : Int) * x2) E rfl rfl (by (first | omega | rfl | (have hk1 := rs_mul x2 k (by omega) (by omega); omega))) (by (first | omega | rfl | (have hk1 := rs_mul x2 k (by omega) (by omega); omega)))) rfl ?_
      clear E a; intro a E
      refine S_v E rfl (R_addx (m := x0 + (((k : Nat) : Int) * x2)) E rfl rfl (by (first | omega | rfl | (have hk1 := rs_mul x2 k (by omega) (by omega); omega))) (by (first | omega | rfl | (have hk1 := rs_mul x2 k (by omega) (by omega); omega)))) rfl ?_
      clear E a; intro a E
      refine S_v E rfl (R_neq E rfl rfl) rfl ?_
      clear E a; intro a E
      refine WL_nil ?_
      refine T_n ?_
      have hc_19 : (decide (x_17 ≠ x0 + (((k : Nat) : Int) * x2))) = false := by (clear S E; first | (simp; done) | decide | (first | refine dec_t ?_ | refine dec_f ?_ | skip); first | rfl | omega | (simp only [stL, rsL_len]; decide) | (have h9 := stL_at (show (stL x0 x1 x2)[_]? = some _ by assumption); first | omega | (refine decide_eq_false ?_; omega)))
      refine WP_condF E rfl hc_19 ?_
      refine WP_skip ?_
      refine B_n ?_
      refine T_n ?_
      refine WP_region ?_
      refine S_v E rfl (R_addx (m := ((k + 1 : Nat) : Int)) E rfl rfl (by omega) (by omega)) rfl ?_
      clear E a; intro a E
      refine S_v E rfl (R_move E rfl) rfl ?_
      clear E a; intro a E
      refine WL_nil ?_
      refine T_n ?_
      exact ⟨k + 1, ⟨M_15, hM_15, S, E.keep ⟨rfl, rfl, rfl, rfl, rfl, trivial⟩, by ((try clear S); (try clear E); first | assumption | omega | rfl | (simp; done) | (simp_all; done) | (simp [List.take_add_one, *]; done) | grind [List.take_add_one])⟩, by omega⟩
    · replace hc_16 := of_decide_eq_false hc_16
      refine WP_exit ?_
      refine T_x ?_
      refine T_x ?_
      refine B_x ?_
      refine T_n ?_
      refine WP_seq ?_
      refine WP_region ?_
      refine S_v E rfl (R_assign E rfl) rfl ?_
      clear E a; intro a E
      refine WL_nil ?_
      refine T_n ?_
      refine WP_ret ?_
      exact F_ret1 E Try.results3 rfl ⟨_, rfl, M_15, (hM_1.trans (hM_4.trans (hM_6.trans (hM_9.trans (hM_11.trans (hM_13.trans hM_15)))))), rfl, S⟩
  · replace E := E.val (t := 33) rfl hc_8
    replace E := E.val (t := 34) rfl hc_8
    replace hc_8 := of_decide_eq_false hc_8
    refine WL_guard_no E rfl rfl rfl rfl fun a E => ?_
    refine WL_guard_no E rfl rfl rfl rfl fun a E => ?_
    refine WL_guard_no E rfl rfl rfl rfl fun a E => ?_
    refine WL_guard_no E rfl rfl rfl rfl fun a E => ?_
    refine S_v E rfl (R_pickF E rfl rfl) rfl ?_
    clear E a; intro a E
    refine WL_nil ?_
    refine T_n ?_
    refine WP_condF E rfl rfl ?_
    refine WP_skip ?_
    refine T_n ?_
    refine WP_seq ?_
    refine WP_seq ?_
    refine WP_region ?_
    refine S_v E rfl (R_move E rfl) rfl ?_
    clear E a; intro a E
    refine S_v E rfl (R_convx E rfl Try.underlying22 Try.underlying3 (by omega)) rfl ?_
    clear E a; intro a E
    refine S_v E rfl (R_move E rfl) rfl ?_
    clear E a; intro a E
    refine S_v E rfl (R_convx E rfl Try.underlying22 Try.underlying3 (by omega)) rfl ?_
    clear E a; intro a E
    refine S_v E rfl (R_move E rfl) rfl ?_
    clear E a; intro a E
    refine S_v E rfl (R_convx E rfl Try.underlying23 Try.underlying3 (by omega)) rfl ?_
    clear E a; intro a E
    refine S_x (X_pu E S rfl rfl rfl (impl_RangeWithStepsSeq (by omega) (by omega) (by omega)) (Hp.le.refl _) ?_)
    clear E a S; rintro a v_21 w M_20 hM_20 hv_21 S E
    replace hv_2 := hv_2.le hM_20
    replace hv_5 := hv_5.le hM_20
    replace hv_7 := hv_7.le hM_20
    refine S_v E rfl (R_move E rfl) rfl ?_
    clear E a; intro a E
    refine S_x (X_pu E S rfl rfl rfl (laws_eq hv_21 hv_5) (Hp.le.refl _) ?_)
    clear E a S; rintro a _ w M_22 hM_22 rfl S E
    replace hv_2 := hv_2.le hM_22
    replace hv_5 := hv_5.le hM_22
    replace hv_7 := hv_7.le hM_22
    replace hv_21 := hv_21.le hM_22
    refine S_v E rfl (R_not E rfl) rfl ?_
    clear E a; intro a E
    refine WL_nil ?_
    refine T_n ?_
    have hc_23 : (!(decide (stL x0 x1 x2 = stL x0 x1 x2))) = false := by (clear S E; first | (simp; done) | decide | (first | refine dec_t ?_ | refine dec_f ?_ | skip); first | rfl | omega | (simp only [stL, rsL_len]; decide) | (have h9 := stL_at (show (stL x0 x1 x2)[_]? = some _ by assumption); first | omega | (refine decide_eq_false ?_; omega)))
    refine WP_condF E rfl hc_23 ?_
    refine WP_skip ?_
    refine T_n ?_
    refine WP_seq ?_
    refine WP_seq ?_
    refine WP_region ?_
    refine S_v E rfl (R_move E rfl) rfl ?_
    clear E a; intro a E
    refine S_v E rfl (R_lenV E rfl T24 hv_5.len) rfl ?_
    clear E a; intro a E
    refine S_v E rfl (R_move E rfl) rfl ?_
    clear E a; intro a E
    refine WL_nil ?_
    refine T_n ?_
    refine WP_block ?_
    refine WP_loop (γ := Nat) (fun (k : Nat) a w => ∃ (M_24 : Hp), Hp.le M_22 M_24 ∧ St w M_24 (H) ∧ Env a 67 [] [(0, .int .i16 x0), (2, .int .i8 x2), (50, v_5), (51, .int .i64 (((stL x0 x1 x2).length : Nat) : Int)), (52, .int .i64 ((k : Nat) : Int))] ∧ (k ≤ (stL x0 x1 x2).length)) (fun k => ((stL x0 x1 x2).length) - k) 0 ⟨M_22, Hp.le.refl _, S, E.keep ⟨rfl, rfl, rfl, rfl, rfl, trivial⟩, by ((try clear S); (try clear E); first | assumption | omega | rfl | (simp; done) | (simp_all; done) | (simp [List.take_add_one, *]; done) | grind [List.take_add_one])⟩ ?_
    try clear E
    try clear S
    try clear a
    try clear w
    rintro k a w ⟨M_24, hM_24, S, E, hL0_0⟩
    replace hv_2 := hv_2.le hM_24
    replace hv_5 := hv_5.le hM_24
    replace hv_7 := hv_7.le hM_24
    replace hv_21 := hv_21.le hM_24
    have hsl := st_len (a := x0) (e := x1) (s := x2) (by omega) (by omega)
    refine WP_seq ?_
    refine WP_region ?_
    refine S_v E rfl (R_lss E rfl rfl) rfl ?_
    clear E a; intro a E
    refine WL_nil ?_
    refine T_n ?_
    refine WP_seq ?_
    refine WP_cond E rfl (fun hc_25 => ?_) (fun hc_25 => ?_)
    · replace hc_25 := of_decide_eq_true hc_25
      refine WP_skip ?_
      refine T_n ?_
      refine WP_seq ?_
      refine WP_block ?_
      refine WP_seq ?_
      refine WP_region ?_
      refine S_v E rfl (R_move E rfl) rfl ?_
      clear E a; intro a E
      obtain ⟨x_26, hx_26⟩ : ∃ x, (stL x0 x1 x2)[k]? = some x := ⟨_, List.getElem?_eq_getElem (by first | omega | (simp; done) | (simp; omega) | (simp_all; omega))⟩
      obtain ⟨p_27, hp_27, qp_27⟩ := hv_5.at hx_26
      refine S_v E rfl (R_idx E rfl rfl T24 hp_27 rfl) rfl ?_
      clear E a; intro a E
      refine S_v E rfl (R_loadM E rfl Try.isAgg3 S.imm qp_27) rfl ?_
      clear E a; intro a E
      refine S_v E rfl (R_assign E rfl) rfl ?_
      clear E a; intro a E
      refine S_v E rfl (R_assign E rfl) rfl ?_
      clear E a; intro a E
      refine WL_nil ?_
      refine T_n ?_
      refine WP_seq ?_
      refine WP_region ?_
      refine S_v E rfl (R_move E rfl) rfl ?_
      clear E a; intro a E
      refine S_v E rfl (R_move E rfl) rfl ?_
      clear E a; intro a E
      refine S_v E rfl (R_convx E rfl Try.underlying22 Try.underlying3 (by omega)) rfl ?_
      clear E a; intro a E
      refine S_v E rfl (R_move E rfl) rfl ?_
      clear E a; intro a E
      refine S_v E rfl (R_move E rfl) rfl ?_
      clear E a; intro a E
      refine S_v E rfl (R_convx E rfl Try.underlying23 Try.underlying3 (by omega)) rfl ?_
      clear E a; intro a E
      refine S_v E rfl (R_mulx (m := ((k : Nat) : Int) * x2) E rfl rfl (by (first | omega | rfl | (have hk1 := rs_mul x2 k (by omega) (by omega); omega))) (by (first | omega | rfl | (have hk1 := rs_mul x2 k (by omega) (by omega); omega)))) rfl ?_
      clear E a; intro a E
      refine S_v E rfl (R_addx (m := x0 + (((k : Nat) : Int) * x2)) E rfl rfl (by (first | omega | rfl | (have hk1 := rs_mul x2 k (by omega) (by omega); omega))) (by (first | omega | rfl | (have hk1 := rs_mul x2 k (by omega) (by omega); omega)))) rfl ?_
      clear E a; intro a E
      refine S_v E rfl (R_neq E rfl rfl) rfl ?_
      clear E a; intro a E
      refine WL_nil ?_
      refine T_n ?_
      have hc_28 : (decide (x_26 ≠ x0 + (((k : Nat) : Int) * x2))) = false := by (clear S E; first | (simp; done) | decide | (first | refine dec_t ?_ | refine dec_f ?_ | skip); first | rfl | omega | (simp only [stL, rsL_len]; decide) | (have h9 := stL_at (show (stL x0 x1 x2)[_]? = some _ by assumption); first | omega | (refine decide_eq_false ?_; omega)))
      refine WP_condF E rfl hc_28 ?_
      refine WP_skip ?_
      refine B_n ?_
      refine T_n ?_
      refine WP_region ?_
      refine S_v E rfl (R_addx (m := ((k + 1 : Nat) : Int)) E rfl rfl (by omega) (by omega)) rfl ?_
      clear E a; intro a E
      refine S_v E rfl (R_move E rfl) rfl ?_
      clear E a; intro a E
      refine WL_nil ?_
      refine T_n ?_
      exact ⟨k + 1, ⟨M_24, hM_24, S, E.keep ⟨rfl, rfl, rfl, rfl, rfl, trivial⟩, by ((try clear S); (try clear E); first | assumption | omega | rfl | (simp; done) | (simp_all; done) | (simp [List.take_add_one, *]; done) | grind [List.take_add_one])⟩, by omega⟩
    · replace hc_25 := of_decide_eq_false hc_25
      refine WP_exit ?_
      refine T_x ?_
      refine T_x ?_
      refine B_x ?_
      refine T_n ?_
      refine WP_seq ?_
      refine WP_region ?_
      refine S_v E rfl (R_assign E rfl) rfl ?_
      clear E a; intro a E
      refine WL_nil ?_
      refine T_n ?_
      refine WP_ret ?_
      exact F_ret1 E Try.results3 rfl ⟨_, rfl, M_24, (hM_1.trans (hM_4.trans (hM_6.trans (hM_20.trans (hM_22.trans hM_24))))), rfl, S⟩

end Go.Proofs.Ytejfcglfjdfneaa.wFnRangeSteps
