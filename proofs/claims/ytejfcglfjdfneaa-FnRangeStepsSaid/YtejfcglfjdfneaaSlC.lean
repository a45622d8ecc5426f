import Derived.Test.YtejfcglfjdfneaaSlB
import Derived.Laws.OwnMore
import Derived.Laws.MakeOwn
namespace Go.Sl
open Go

section
variable {P : Program} {a : Act} {w : World}
  {n : Nat} {ds : List Deferred} {l : List (Nat × Value)} {d : Nat} {ty t t' : TypeId} {pos : String} {af : Array Edge} {gd : Option (Nat × Bool)} {x y z : Operand}

theorem R_move {v : Value} (E : Env a n ds l) (hx : opv l x = some v) :
    (execOp a.eval ⟨some d, .move x, ty, pos, af, gd⟩).run P w = .ok (.value (v)) w := 
  (by simp [execOp, E.eval hx])
theorem e_move {v : Value} (E : Env a n ds l) (hx : opv l x = some v) {r0 : Option Nat} {os0 : Array Oper} {Q0 : Exit → Act → World → Prop} {rest0 : List Oper} (k0 : ∀ a, Env a n ds ((d, (v)) :: l) → WL r0 P os0 Q0 rest0 a w) (hd0 : Nat.blt d n = true := by rfl) : WL r0 P os0 Q0 (⟨some d, .move x, ty, pos, af, none⟩ :: rest0) a w := O_val E hd0 rfl (R_move E hx) k0
theorem R_assign {v : Value} (E : Env a n ds l) (hx : opv l x = some v) :
    (execOp a.eval ⟨some d, .assign x, ty, pos, af, gd⟩).run P w = .ok (.value (v)) w := 
  (by simp [execOp, E.eval hx])
theorem e_assign {v : Value} (E : Env a n ds l) (hx : opv l x = some v) {r0 : Option Nat} {os0 : Array Oper} {Q0 : Exit → Act → World → Prop} {rest0 : List Oper} (k0 : ∀ a, Env a n ds ((d, (v)) :: l) → WL r0 P os0 Q0 rest0 a w) (hd0 : Nat.blt d n = true := by rfl) : WL r0 P os0 Q0 (⟨some d, .assign x, ty, pos, af, none⟩ :: rest0) a w := O_val E hd0 rfl (R_assign E hx) k0
theorem R_pick {c : Bool} {u v : Value} (E : Env a n ds l) (hx : opv l x = some (.bool c)) (hy : opv l y = some u) (hz : opv l z = some v) :
    (execOp a.eval ⟨some d, .pick x y z, ty, pos, af, gd⟩).run P w = .ok (.value (if c then u else v)) w := 
  (by simp [execOp, E.eval hx, E.eval hy, E.eval hz, asBool])
theorem e_pick {c : Bool} {u v : Value} (E : Env a n ds l) (hx : opv l x = some (.bool c)) (hy : opv l y = some u) (hz : opv l z = some v) {r0 : Option Nat} {os0 : Array Oper} {Q0 : Exit → Act → World → Prop} {rest0 : List Oper} (k0 : ∀ a, Env a n ds ((d, (if c then u else v)) :: l) → WL r0 P os0 Q0 rest0 a w) (hd0 : Nat.blt d n = true := by rfl) : WL r0 P os0 Q0 (⟨some d, .pick x y z, ty, pos, af, none⟩ :: rest0) a w := O_val E hd0 rfl (R_pick E hx hy hz) k0
theorem R_pickT {u : Value} (E : Env a n ds l) (hx : opv l x = some (.bool true)) (hy : opv l y = some u) :
    (execOp a.eval ⟨some d, .pick x y z, ty, pos, af, gd⟩).run P w = .ok (.value (u)) w := 
  (by simp [execOp, E.eval hx, E.eval hy, asBool])
theorem e_pickT {u : Value} (E : Env a n ds l) (hx : opv l x = some (.bool true)) (hy : opv l y = some u) {r0 : Option Nat} {os0 : Array Oper} {Q0 : Exit → Act → World → Prop} {rest0 : List Oper} (k0 : ∀ a, Env a n ds ((d, (u)) :: l) → WL r0 P os0 Q0 rest0 a w) (hd0 : Nat.blt d n = true := by rfl) : WL r0 P os0 Q0 (⟨some d, .pick x y z, ty, pos, af, none⟩ :: rest0) a w := O_val E hd0 rfl (R_pickT E hx hy) k0
theorem R_pickF {u : Value} (E : Env a n ds l) (hx : opv l x = some (.bool false)) (hz : opv l z = some u) :
    (execOp a.eval ⟨some d, .pick x y z, ty, pos, af, gd⟩).run P w = .ok (.value (u)) w := 
  (by simp [execOp, E.eval hx, E.eval hz, asBool])
theorem e_pickF {u : Value} (E : Env a n ds l) (hx : opv l x = some (.bool false)) (hz : opv l z = some u) {r0 : Option Nat} {os0 : Array Oper} {Q0 : Exit → Act → World → Prop} {rest0 : List Oper} (k0 : ∀ a, Env a n ds ((d, (u)) :: l) → WL r0 P os0 Q0 rest0 a w) (hd0 : Nat.blt d n = true := by rfl) : WL r0 P os0 Q0 (⟨some d, .pick x y z, ty, pos, af, none⟩ :: rest0) a w := O_val E hd0 rfl (R_pickF E hx hz) k0
theorem R_not {b : Bool} (E : Env a n ds l) (hx : opv l x = some (.bool b)) :
    (execOp a.eval ⟨some d, .unOp .not t x, ty, pos, af, gd⟩).run P w = .ok (.value (.bool (!b))) w := 
  (by simp [execOp, E.eval hx, Op.unary])
theorem e_not {b : Bool} (E : Env a n ds l) (hx : opv l x = some (.bool b)) {r0 : Option Nat} {os0 : Array Oper} {Q0 : Exit → Act → World → Prop} {rest0 : List Oper} (k0 : ∀ a, Env a n ds ((d, (.bool (!b))) :: l) → WL r0 P os0 Q0 rest0 a w) (hd0 : Nat.blt d n = true := by rfl) : WL r0 P os0 Q0 (⟨some d, .unOp .not t x, ty, pos, af, none⟩ :: rest0) a w := O_val E hd0 rfl (R_not E hx) k0
theorem R_neg {κ : IntKind} {i : Int} (E : Env a n ds l) (hx : opv l x = some (.int κ i)) :
    (execOp a.eval ⟨some d, .unOp .neg t x, ty, pos, af, gd⟩).run P w = .ok (.value (.int κ (κ.wrap (0 - i)))) w := 
  (by simp [execOp, E.eval hx, Op.unary, Op.intArith])
theorem e_neg {κ : IntKind} {i : Int} (E : Env a n ds l) (hx : opv l x = some (.int κ i)) {r0 : Option Nat} {os0 : Array Oper} {Q0 : Exit → Act → World → Prop} {rest0 : List Oper} (k0 : ∀ a, Env a n ds ((d, (.int κ (κ.wrap (0 - i)))) :: l) → WL r0 P os0 Q0 rest0 a w) (hd0 : Nat.blt d n = true := by rfl) : WL r0 P os0 Q0 (⟨some d, .unOp .neg t x, ty, pos, af, none⟩ :: rest0) a w := O_val E hd0 rfl (R_neg E hx) k0
theorem R_conv {κ κ' : IntKind} {i : Int} (E : Env a n ds l) (hx : opv l x = some (.int κ i)) (hs : P.underlying t = some (.int κ)) (ht : P.underlying t' = some (.int κ')) :
    (execOp a.eval ⟨some d, .convert t t' x, ty, pos, af, gd⟩).run P w = .ok (.value (.int κ' (κ'.wrap i))) w := 
  (by simp [execOp, E.eval hx, convert, underlying, hs, ht, Conv.intToInt])
theorem e_conv {κ κ' : IntKind} {i : Int} (E : Env a n ds l) (hx : opv l x = some (.int κ i)) (hs : P.underlying t = some (.int κ)) (ht : P.underlying t' = some (.int κ')) {r0 : Option Nat} {os0 : Array Oper} {Q0 : Exit → Act → World → Prop} {rest0 : List Oper} (k0 : ∀ a, Env a n ds ((d, (.int κ' (κ'.wrap i))) :: l) → WL r0 P os0 Q0 rest0 a w) (hd0 : Nat.blt d n = true := by rfl) : WL r0 P os0 Q0 (⟨some d, .convert t t' x, ty, pos, af, none⟩ :: rest0) a w := O_val E hd0 rfl (R_conv E hx hs ht) k0
theorem R_makeFunc {fn : Fn} {first cap : Array Operand} {fs cs : List Value} (E : Env a n ds l) (hf : opvs l first.toList = some fs) (hc : opvs l cap.toList = some cs) :
    (execOp a.eval ⟨some d, .makeFunc fn first cap, ty, pos, af, gd⟩).run P w = .ok (.value (.func fn fs.toArray cs.toArray)) w := by
  have e1 : first.map a.eval = fs.toArray := by have := E.evals hf; rw [← this, ← Array.toList_map, Array.toArray_toList]
  have e2 : cap.map a.eval = cs.toArray := by have := E.evals hc; rw [← this, ← Array.toList_map, Array.toArray_toList]
  simp [execOp, Instr.makeFunc, e1, e2]
theorem e_makeFunc {fn : Fn} {first cap : Array Operand} {fs cs : List Value} (E : Env a n ds l) (hf : opvs l first.toList = some fs) (hc : opvs l cap.toList = some cs) {r0 : Option Nat} {os0 : Array Oper} {Q0 : Exit → Act → World → Prop} {rest0 : List Oper} (k0 : ∀ a, Env a n ds ((d, (.func fn fs.toArray cs.toArray)) :: l) → WL r0 P os0 Q0 rest0 a w) (hd0 : Nat.blt d n = true := by rfl) : WL r0 P os0 Q0 (⟨some d, .makeFunc fn first cap, ty, pos, af, none⟩ :: rest0) a w := O_val E hd0 rfl (R_makeFunc E hf hc) k0
theorem R_extract {vs : Array Value} {i : Nat} {v : Value} (E : Env a n ds l) (hx : opv l x = some (.tuple vs)) (hv : vs[i]? = some v) :
    (execOp a.eval ⟨some d, .extract x i, ty, pos, af, gd⟩).run P w = .ok (.value (v)) w := 
  (by simp [execOp, E.eval hx, Instr.extract, hv])
theorem e_extract {vs : Array Value} {i : Nat} {v : Value} (E : Env a n ds l) (hx : opv l x = some (.tuple vs)) (hv : vs[i]? = some v) {r0 : Option Nat} {os0 : Array Oper} {Q0 : Exit → Act → World → Prop} {rest0 : List Oper} (k0 : ∀ a, Env a n ds ((d, (v)) :: l) → WL r0 P os0 Q0 rest0 a w) (hd0 : Nat.blt d n = true := by rfl) : WL r0 P os0 Q0 (⟨some d, .extract x i, ty, pos, af, none⟩ :: rest0) a w := O_val E hd0 rfl (R_extract E hx hv) k0
section arith
variable {κ : IntKind} {i j : Int}
theorem run_bin (op : BinOp) (hx : a.eval x = .int κ i) (hy : a.eval y = .int κ j) (v : Value) (h : (binOp op t (.int κ i) (.int κ j)).run P w = .ok v w) :
    (execOp a.eval ⟨some d, .binOp op t x y t', ty, pos, af, gd⟩).run P w = .ok (.value v) w := by
  simp [execOp, hx, hy, eqGuard, h]
theorem R_add (E : Env a n ds l) (hx : opv l x = some (.int κ i)) (hy : opv l y = some (.int κ j)) :
    (execOp a.eval ⟨some d, .binOp .add t x y t', ty, pos, af, gd⟩).run P w = .ok (.value (.int κ (κ.wrap (i + j)))) w := 
  (run_bin .add (E.eval hx) (E.eval hy) _ (by simp [binOp, Op.intArith]))
theorem e_add (E : Env a n ds l) (hx : opv l x = some (.int κ i)) (hy : opv l y = some (.int κ j)) {r0 : Option Nat} {os0 : Array Oper} {Q0 : Exit → Act → World → Prop} {rest0 : List Oper} (k0 : ∀ a, Env a n ds ((d, (.int κ (κ.wrap (i + j)))) :: l) → WL r0 P os0 Q0 rest0 a w) (hd0 : Nat.blt d n = true := by rfl) : WL r0 P os0 Q0 (⟨some d, .binOp .add t x y t', ty, pos, af, none⟩ :: rest0) a w := O_val E hd0 rfl (R_add E hx hy) k0
theorem R_sub (E : Env a n ds l) (hx : opv l x = some (.int κ i)) (hy : opv l y = some (.int κ j)) :
    (execOp a.eval ⟨some d, .binOp .sub t x y t', ty, pos, af, gd⟩).run P w = .ok (.value (.int κ (κ.wrap (i - j)))) w := 
  (run_bin .sub (E.eval hx) (E.eval hy) _ (by simp [binOp, Op.intArith]))
theorem e_sub (E : Env a n ds l) (hx : opv l x = some (.int κ i)) (hy : opv l y = some (.int κ j)) {r0 : Option Nat} {os0 : Array Oper} {Q0 : Exit → Act → World → Prop} {rest0 : List Oper} (k0 : ∀ a, Env a n ds ((d, (.int κ (κ.wrap (i - j)))) :: l) → WL r0 P os0 Q0 rest0 a w) (hd0 : Nat.blt d n = true := by rfl) : WL r0 P os0 Q0 (⟨some d, .binOp .sub t x y t', ty, pos, af, none⟩ :: rest0) a w := O_val E hd0 rfl (R_sub E hx hy) k0
theorem R_mul (E : Env a n ds l) (hx : opv l x = some (.int κ i)) (hy : opv l y = some (.int κ j)) :
    (execOp a.eval ⟨some d, .binOp .mul t x y t', ty, pos, af, gd⟩).run P w = .ok (.value (.int κ (κ.wrap (i * j)))) w := 
  (run_bin .mul (E.eval hx) (E.eval hy) _ (by simp [binOp, Op.intArith]))
theorem e_mul (E : Env a n ds l) (hx : opv l x = some (.int κ i)) (hy : opv l y = some (.int κ j)) {r0 : Option Nat} {os0 : Array Oper} {Q0 : Exit → Act → World → Prop} {rest0 : List Oper} (k0 : ∀ a, Env a n ds ((d, (.int κ (κ.wrap (i * j)))) :: l) → WL r0 P os0 Q0 rest0 a w) (hd0 : Nat.blt d n = true := by rfl) : WL r0 P os0 Q0 (⟨some d, .binOp .mul t x y t', ty, pos, af, none⟩ :: rest0) a w := O_val E hd0 rfl (R_mul E hx hy) k0
/-- sums that do not wrap -/
theorem wrap_in {m : Int} (h : -9223372036854775808 ≤ m ∧ m ≤ 9223372036854775807) : IntKind.i64.wrap m = m := by
  simp only [IntKind.wrap, IntKind.signed, IntKind.bits]; simp; omega
theorem R_addx (E : Env a n ds l) (hx : opv l x = some (.int .i64 i)) (hy : opv l y = some (.int .i64 j)) {m : Int} (hm : i + j = m) (hb : -9223372036854775808 ≤ m ∧ m ≤ 9223372036854775807) :
    (execOp a.eval ⟨some d, .binOp .add t x y t', ty, pos, af, gd⟩).run P w = .ok (.value (.int .i64 m)) w := by rw [R_add E hx hy, hm, wrap_in hb]
theorem e_addx (E : Env a n ds l) (hx : opv l x = some (.int .i64 i)) (hy : opv l y = some (.int .i64 j)) {m : Int} {r0 : Option Nat} {os0 : Array Oper} {Q0 : Exit → Act → World → Prop} {rest0 : List Oper} (k0 : ∀ a, Env a n ds ((d, (.int .i64 m)) :: l) → WL r0 P os0 Q0 rest0 a w) (hm : i + j = m := by omega) (hb : -9223372036854775808 ≤ m ∧ m ≤ 9223372036854775807 := by omega) (hd0 : Nat.blt d n = true := by rfl) : WL r0 P os0 Q0 (⟨some d, .binOp .add t x y t', ty, pos, af, none⟩ :: rest0) a w := O_val E hd0 rfl (R_addx E hx hy hm hb) k0
theorem R_subx (E : Env a n ds l) (hx : opv l x = some (.int .i64 i)) (hy : opv l y = some (.int .i64 j)) {m : Int} (hm : i - j = m) (hb : -9223372036854775808 ≤ m ∧ m ≤ 9223372036854775807) :
    (execOp a.eval ⟨some d, .binOp .sub t x y t', ty, pos, af, gd⟩).run P w = .ok (.value (.int .i64 m)) w := by rw [R_sub E hx hy, hm, wrap_in hb]
theorem e_subx (E : Env a n ds l) (hx : opv l x = some (.int .i64 i)) (hy : opv l y = some (.int .i64 j)) {m : Int} {r0 : Option Nat} {os0 : Array Oper} {Q0 : Exit → Act → World → Prop} {rest0 : List Oper} (k0 : ∀ a, Env a n ds ((d, (.int .i64 m)) :: l) → WL r0 P os0 Q0 rest0 a w) (hm : i - j = m := by omega) (hb : -9223372036854775808 ≤ m ∧ m ≤ 9223372036854775807 := by omega) (hd0 : Nat.blt d n = true := by rfl) : WL r0 P os0 Q0 (⟨some d, .binOp .sub t x y t', ty, pos, af, none⟩ :: rest0) a w := O_val E hd0 rfl (R_subx E hx hy hm hb) k0
theorem R_mulx (E : Env a n ds l) (hx : opv l x = some (.int .i64 i)) (hy : opv l y = some (.int .i64 j)) {m : Int} (hm : i * j = m) (hb : -9223372036854775808 ≤ m ∧ m ≤ 9223372036854775807) :
    (execOp a.eval ⟨some d, .binOp .mul t x y t', ty, pos, af, gd⟩).run P w = .ok (.value (.int .i64 m)) w := by rw [R_mul E hx hy, hm, wrap_in hb]
theorem e_mulx (E : Env a n ds l) (hx : opv l x = some (.int .i64 i)) (hy : opv l y = some (.int .i64 j)) {m : Int} {r0 : Option Nat} {os0 : Array Oper} {Q0 : Exit → Act → World → Prop} {rest0 : List Oper} (k0 : ∀ a, Env a n ds ((d, (.int .i64 m)) :: l) → WL r0 P os0 Q0 rest0 a w) (hm : i * j = m := by omega) (hb : -9223372036854775808 ≤ m ∧ m ≤ 9223372036854775807 := by omega) (hd0 : Nat.blt d n = true := by rfl) : WL r0 P os0 Q0 (⟨some d, .binOp .mul t x y t', ty, pos, af, none⟩ :: rest0) a w := O_val E hd0 rfl (R_mulx E hx hy hm hb) k0
theorem R_quo (E : Env a n ds l) (hx : opv l x = some (.int κ i)) (hy : opv l y = some (.int κ j)) (hj : j ≠ 0) :
    (execOp a.eval ⟨some d, .binOp .quo t x y t', ty, pos, af, gd⟩).run P w = .ok (.value (.int κ (κ.wrap (i.tdiv j)))) w :=
  (run_bin .quo (E.eval hx) (E.eval hy) _ (by simp [binOp, Op.intDiv, hj]))
theorem e_quo (E : Env a n ds l) (hx : opv l x = some (.int κ i)) (hy : opv l y = some (.int κ j)) (hj : j ≠ 0) {r0 : Option Nat} {os0 : Array Oper} {Q0 : Exit → Act → World → Prop} {rest0 : List Oper} (k0 : ∀ a, Env a n ds ((d, (.int κ (κ.wrap (i.tdiv j)))) :: l) → WL r0 P os0 Q0 rest0 a w) (hd0 : Nat.blt d n = true := by rfl) : WL r0 P os0 Q0 (⟨some d, .binOp .quo t x y t', ty, pos, af, none⟩ :: rest0) a w := O_val E hd0 rfl (R_quo E hx hy hj) k0
theorem R_rem (E : Env a n ds l) (hx : opv l x = some (.int κ i)) (hy : opv l y = some (.int κ j)) (hj : j ≠ 0) :
    (execOp a.eval ⟨some d, .binOp .rem t x y t', ty, pos, af, gd⟩).run P w = .ok (.value (.int κ (i.tmod j))) w := 
  (run_bin .rem (E.eval hx) (E.eval hy) _ (by simp [binOp, Op.intDiv, hj]))
theorem e_rem (E : Env a n ds l) (hx : opv l x = some (.int κ i)) (hy : opv l y = some (.int κ j)) (hj : j ≠ 0) {r0 : Option Nat} {os0 : Array Oper} {Q0 : Exit → Act → World → Prop} {rest0 : List Oper} (k0 : ∀ a, Env a n ds ((d, (.int κ (i.tmod j))) :: l) → WL r0 P os0 Q0 rest0 a w) (hd0 : Nat.blt d n = true := by rfl) : WL r0 P os0 Q0 (⟨some d, .binOp .rem t x y t', ty, pos, af, none⟩ :: rest0) a w := O_val E hd0 rfl (R_rem E hx hy hj) k0
theorem R_lss (E : Env a n ds l) (hx : opv l x = some (.int κ i)) (hy : opv l y = some (.int κ j)) :
    (execOp a.eval ⟨some d, .binOp .lss t x y t', ty, pos, af, gd⟩).run P w = .ok (.value (.bool (decide (i < j)))) w := 
  (run_bin .lss (E.eval hx) (E.eval hy) _ (by simp [binOp, Op.intCmp]))
theorem e_lss (E : Env a n ds l) (hx : opv l x = some (.int κ i)) (hy : opv l y = some (.int κ j)) {r0 : Option Nat} {os0 : Array Oper} {Q0 : Exit → Act → World → Prop} {rest0 : List Oper} (k0 : ∀ a, Env a n ds ((d, (.bool (decide (i < j)))) :: l) → WL r0 P os0 Q0 rest0 a w) (hd0 : Nat.blt d n = true := by rfl) : WL r0 P os0 Q0 (⟨some d, .binOp .lss t x y t', ty, pos, af, none⟩ :: rest0) a w := O_val E hd0 rfl (R_lss E hx hy) k0
theorem R_leq (E : Env a n ds l) (hx : opv l x = some (.int κ i)) (hy : opv l y = some (.int κ j)) :
    (execOp a.eval ⟨some d, .binOp .leq t x y t', ty, pos, af, gd⟩).run P w = .ok (.value (.bool (decide (i ≤ j)))) w := 
  (run_bin .leq (E.eval hx) (E.eval hy) _ (by simp [binOp, Op.intCmp]))
theorem e_leq (E : Env a n ds l) (hx : opv l x = some (.int κ i)) (hy : opv l y = some (.int κ j)) {r0 : Option Nat} {os0 : Array Oper} {Q0 : Exit → Act → World → Prop} {rest0 : List Oper} (k0 : ∀ a, Env a n ds ((d, (.bool (decide (i ≤ j)))) :: l) → WL r0 P os0 Q0 rest0 a w) (hd0 : Nat.blt d n = true := by rfl) : WL r0 P os0 Q0 (⟨some d, .binOp .leq t x y t', ty, pos, af, none⟩ :: rest0) a w := O_val E hd0 rfl (R_leq E hx hy) k0
theorem R_gtr (E : Env a n ds l) (hx : opv l x = some (.int κ i)) (hy : opv l y = some (.int κ j)) :
    (execOp a.eval ⟨some d, .binOp .gtr t x y t', ty, pos, af, gd⟩).run P w = .ok (.value (.bool (decide (j < i)))) w := 
  (run_bin .gtr (E.eval hx) (E.eval hy) _ (by simp [binOp, Op.intCmp]))
theorem e_gtr (E : Env a n ds l) (hx : opv l x = some (.int κ i)) (hy : opv l y = some (.int κ j)) {r0 : Option Nat} {os0 : Array Oper} {Q0 : Exit → Act → World → Prop} {rest0 : List Oper} (k0 : ∀ a, Env a n ds ((d, (.bool (decide (j < i)))) :: l) → WL r0 P os0 Q0 rest0 a w) (hd0 : Nat.blt d n = true := by rfl) : WL r0 P os0 Q0 (⟨some d, .binOp .gtr t x y t', ty, pos, af, none⟩ :: rest0) a w := O_val E hd0 rfl (R_gtr E hx hy) k0
theorem R_geq (E : Env a n ds l) (hx : opv l x = some (.int κ i)) (hy : opv l y = some (.int κ j)) :
    (execOp a.eval ⟨some d, .binOp .geq t x y t', ty, pos, af, gd⟩).run P w = .ok (.value (.bool (decide (j ≤ i)))) w := 
  (run_bin .geq (E.eval hx) (E.eval hy) _ (by simp [binOp, Op.intCmp]))
theorem e_geq (E : Env a n ds l) (hx : opv l x = some (.int κ i)) (hy : opv l y = some (.int κ j)) {r0 : Option Nat} {os0 : Array Oper} {Q0 : Exit → Act → World → Prop} {rest0 : List Oper} (k0 : ∀ a, Env a n ds ((d, (.bool (decide (j ≤ i)))) :: l) → WL r0 P os0 Q0 rest0 a w) (hd0 : Nat.blt d n = true := by rfl) : WL r0 P os0 Q0 (⟨some d, .binOp .geq t x y t', ty, pos, af, none⟩ :: rest0) a w := O_val E hd0 rfl (R_geq E hx hy) k0
theorem R_eql (E : Env a n ds l) (hx : opv l x = some (.int κ i)) (hy : opv l y = some (.int κ j)) :
    (execOp a.eval ⟨some d, .binOp .eql t x y t', ty, pos, af, gd⟩).run P w = .ok (.value (.bool (decide (i = j)))) w := 
  (run_bin .eql (E.eval hx) (E.eval hy) _ (by simp [binOp, Op.intCmp]; rfl))
theorem e_eql (E : Env a n ds l) (hx : opv l x = some (.int κ i)) (hy : opv l y = some (.int κ j)) {r0 : Option Nat} {os0 : Array Oper} {Q0 : Exit → Act → World → Prop} {rest0 : List Oper} (k0 : ∀ a, Env a n ds ((d, (.bool (decide (i = j)))) :: l) → WL r0 P os0 Q0 rest0 a w) (hd0 : Nat.blt d n = true := by rfl) : WL r0 P os0 Q0 (⟨some d, .binOp .eql t x y t', ty, pos, af, none⟩ :: rest0) a w := O_val E hd0 rfl (R_eql E hx hy) k0
theorem R_neq (E : Env a n ds l) (hx : opv l x = some (.int κ i)) (hy : opv l y = some (.int κ j)) :
    (execOp a.eval ⟨some d, .binOp .neq t x y t', ty, pos, af, gd⟩).run P w = .ok (.value (.bool (decide (i ≠ j)))) w := 
  (run_bin .neq (E.eval hx) (E.eval hy) _ (by simp [binOp, Op.intCmp, bne]; rfl))
theorem e_neq (E : Env a n ds l) (hx : opv l x = some (.int κ i)) (hy : opv l y = some (.int κ j)) {r0 : Option Nat} {os0 : Array Oper} {Q0 : Exit → Act → World → Prop} {rest0 : List Oper} (k0 : ∀ a, Env a n ds ((d, (.bool (decide (i ≠ j)))) :: l) → WL r0 P os0 Q0 rest0 a w) (hd0 : Nat.blt d n = true := by rfl) : WL r0 P os0 Q0 (⟨some d, .binOp .neq t x y t', ty, pos, af, none⟩ :: rest0) a w := O_val E hd0 rfl (R_neq E hx hy) k0
end arith
theorem run_eqB (b c : Bool) (ht : P.underlying t = some .bool) : (Op.equal t (.bool b) (.bool c)).run P w = .ok (b == c) w := by
  have h : ∀ m, (Op.equalIn (m + 1) t (.bool b) (.bool c)).run P w = .ok (b == c) w := fun m => by simp [Op.equalIn, underlying, ht]
  exact h 9999
theorem R_eqlB {b c : Bool} (E : Env a n ds l) (hx : opv l x = some (.bool b)) (hy : opv l y = some (.bool c)) (ht : P.underlying t = some .bool) :
    (execOp a.eval ⟨some d, .binOp .eql t x y t', ty, pos, af, gd⟩).run P w = .ok (.value (.bool (b == c))) w := 
  (by simp [execOp, E.eval hx, E.eval hy, eqGuard, binOp, run_eqB _ _ ht])
theorem e_eqlB {b c : Bool} (E : Env a n ds l) (hx : opv l x = some (.bool b)) (hy : opv l y = some (.bool c)) (ht : P.underlying t = some .bool) {r0 : Option Nat} {os0 : Array Oper} {Q0 : Exit → Act → World → Prop} {rest0 : List Oper} (k0 : ∀ a, Env a n ds ((d, (.bool (b == c))) :: l) → WL r0 P os0 Q0 rest0 a w) (hd0 : Nat.blt d n = true := by rfl) : WL r0 P os0 Q0 (⟨some d, .binOp .eql t x y t', ty, pos, af, none⟩ :: rest0) a w := O_val E hd0 rfl (R_eqlB E hx hy ht) k0
theorem R_neqB {b c : Bool} (E : Env a n ds l) (hx : opv l x = some (.bool b)) (hy : opv l y = some (.bool c)) (ht : P.underlying t = some .bool) :
    (execOp a.eval ⟨some d, .binOp .neq t x y t', ty, pos, af, gd⟩).run P w = .ok (.value (.bool (!(b == c)))) w := 
  (by simp [execOp, E.eval hx, E.eval hy, eqGuard, binOp, run_eqB _ _ ht])
theorem e_neqB {b c : Bool} (E : Env a n ds l) (hx : opv l x = some (.bool b)) (hy : opv l y = some (.bool c)) (ht : P.underlying t = some .bool) {r0 : Option Nat} {os0 : Array Oper} {Q0 : Exit → Act → World → Prop} {rest0 : List Oper} (k0 : ∀ a, Env a n ds ((d, (.bool (!(b == c)))) :: l) → WL r0 P os0 Q0 rest0 a w) (hd0 : Nat.blt d n = true := by rfl) : WL r0 P os0 Q0 (⟨some d, .binOp .neq t x y t', ty, pos, af, none⟩ :: rest0) a w := O_val E hd0 rfl (R_neqB E hx hy ht) k0
theorem R_len {A : Option Addr} {m c : Nat} {e : TypeId} (E : Env a n ds l) (hx : opv l x = some (.slice A m c)) (ht : P.underlying t = some (.slice e)) :
    (execOp a.eval ⟨some d, .call ⟨.builtin .len, #[x], #[t]⟩, ty, pos, af, gd⟩).run P w = .ok (.value (.int .i64 (m : Int))) w := 
  (by simp [execOp, resolve, invoke, builtin, E.eval hx, Builtin.len_, underlying, ht, goInt])
theorem e_len {A : Option Addr} {m c : Nat} {e : TypeId} (E : Env a n ds l) (hx : opv l x = some (.slice A m c)) (ht : P.underlying t = some (.slice e)) {r0 : Option Nat} {os0 : Array Oper} {Q0 : Exit → Act → World → Prop} {rest0 : List Oper} (k0 : ∀ a, Env a n ds ((d, (.int .i64 (m : Int))) :: l) → WL r0 P os0 Q0 rest0 a w) (hd0 : Nat.blt d n = true := by rfl) : WL r0 P os0 Q0 (⟨some d, .call ⟨.builtin .len, #[x], #[t]⟩, ty, pos, af, none⟩ :: rest0) a w := O_val E hd0 rfl (R_len E hx ht) k0
theorem R_lenS {s : ByteArray} (E : Env a n ds l) (hx : opv l x = some (.string s)) (ht : P.underlying t = some .string) :
    (execOp a.eval ⟨some d, .call ⟨.builtin .len, #[x], #[t]⟩, ty, pos, af, gd⟩).run P w = .ok (.value (.int .i64 (s.size : Int))) w := 
  (by simp [execOp, resolve, invoke, builtin, E.eval hx, Builtin.len_, underlying, ht, goInt])
theorem e_lenS {s : ByteArray} (E : Env a n ds l) (hx : opv l x = some (.string s)) (ht : P.underlying t = some .string) {r0 : Option Nat} {os0 : Array Oper} {Q0 : Exit → Act → World → Prop} {rest0 : List Oper} (k0 : ∀ a, Env a n ds ((d, (.int .i64 (s.size : Int))) :: l) → WL r0 P os0 Q0 rest0 a w) (hd0 : Nat.blt d n = true := by rfl) : WL r0 P os0 Q0 (⟨some d, .call ⟨.builtin .len, #[x], #[t]⟩, ty, pos, af, none⟩ :: rest0) a w := O_val E hd0 rfl (R_lenS E hx ht) k0
end
end Go.Sl
