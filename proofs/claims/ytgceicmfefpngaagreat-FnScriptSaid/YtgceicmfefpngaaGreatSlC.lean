import Derived.Test.YtgceicmfefpngaaGreatSlB
import Derived.Laws.OwnMore
import Derived.Laws.MakeOwn
namespace Go.Sl
open Go
section
variable {P : Program} {a : Act} {w : World}
  {n : Nat} {ds : List Deferred} {l : List (Nat × Value)} {d : Nat} {ty t t' : TypeId} {pos : String} {af : Array Edge} {gd : Option (Nat × Bool)} {x y z : Operand}
theorem Qu {v : Value} (E : Env a n ds l) (hx : opv l x = some v) :
    (execOp a.eval ⟨some d, .move x, ty, pos, af, gd⟩).run P w = .ok (.value (v)) w := 
  (by simp [execOp, E.eval hx])
theorem Jm {v : Value} (E : Env a n ds l) (hx : opv l x = some v) :
    (execOp a.eval ⟨some d, .assign x, ty, pos, af, gd⟩).run P w = .ok (.value (v)) w := 
  (by simp [execOp, E.eval hx])
theorem QZ {u : Value} (E : Env a n ds l) (hx : opv l x = some (.bool true)) (hy : opv l y = some u) :
    (execOp a.eval ⟨some d, .pick x y z, ty, pos, af, gd⟩).run P w = .ok (.value (u)) w := 
  (by simp [execOp, E.eval hx, E.eval hy, asBool])
theorem QQ {u : Value} (E : Env a n ds l) (hx : opv l x = some (.bool false)) (hz : opv l z = some u) :
    (execOp a.eval ⟨some d, .pick x y z, ty, pos, af, gd⟩).run P w = .ok (.value (u)) w := 
  (by simp [execOp, E.eval hx, E.eval hz, asBool])
theorem Zk {b : Bool} (E : Env a n ds l) (hx : opv l x = some (.bool b)) :
    (execOp a.eval ⟨some d, .unOp .not t x, ty, pos, af, gd⟩).run P w = .ok (.value (.bool (!b))) w := 
  (by simp [execOp, E.eval hx, Op.unary])
theorem R_neg {κ : IntKind} {i : Int} (E : Env a n ds l) (hx : opv l x = some (.int κ i)) :
    (execOp a.eval ⟨some d, .unOp .neg t x, ty, pos, af, gd⟩).run P w = .ok (.value (.int κ (κ.wrap (0 - i)))) w := 
  (by simp [execOp, E.eval hx, Op.unary, Op.intArith])
theorem R_conv {κ κ' : IntKind} {i : Int} (E : Env a n ds l) (hx : opv l x = some (.int κ i)) (hs : P.underlying t = some (.int κ)) (ht : P.underlying t' = some (.int κ')) :
    (execOp a.eval ⟨some d, .convert t t' x, ty, pos, af, gd⟩).run P w = .ok (.value (.int κ' (κ'.wrap i))) w := 
  (by simp [execOp, E.eval hx, convert, underlying, hs, ht, Conv.intToInt])
theorem QT {fn : Fn} {first cap : Array Operand} {fs cs : List Value} (E : Env a n ds l) (hf : GJ l first.toList = some fs) (hc : GJ l cap.toList = some cs) :
    (execOp a.eval ⟨some d, .makeFunc fn first cap, ty, pos, af, gd⟩).run P w = .ok (.value (.func fn fs.toArray cs.toArray)) w := by
  have e1 : first.map a.eval = fs.toArray := by have := E.evals hf; rw [← this, ← Array.toList_map, Array.toArray_toList]
  have e2 : cap.map a.eval = cs.toArray := by have := E.evals hc; rw [← this, ← Array.toList_map, Array.toArray_toList]
  simp [execOp, Instr.makeFunc, e1, e2]
theorem Qm {vs : Array Value} {i : Nat} {v : Value} (E : Env a n ds l) (hx : opv l x = some (.tuple vs)) (hv : vs[i]? = some v) :
    (execOp a.eval ⟨some d, .extract x i, ty, pos, af, gd⟩).run P w = .ok (.value (v)) w := 
  (by simp [execOp, E.eval hx, Instr.extract, hv])
section arith
variable {κ : IntKind} {i j : Int}
theorem Yp (op : BinOp) (hx : a.eval x = .int κ i) (hy : a.eval y = .int κ j) (v : Value) (h : (binOp op t (.int κ i) (.int κ j)).run P w = .ok v w) :
    (execOp a.eval ⟨some d, .binOp op t x y t', ty, pos, af, gd⟩).run P w = .ok (.value v) w := by
  simp [execOp, hx, hy, eqGuard, h]
theorem R_add (E : Env a n ds l) (hx : opv l x = some (.int κ i)) (hy : opv l y = some (.int κ j)) :
    (execOp a.eval ⟨some d, .binOp .add t x y t', ty, pos, af, gd⟩).run P w = .ok (.value (.int κ (κ.wrap (i + j)))) w := 
  (Yp .add (E.eval hx) (E.eval hy) _ (by simp [binOp, Op.intArith]))
theorem R_sub (E : Env a n ds l) (hx : opv l x = some (.int κ i)) (hy : opv l y = some (.int κ j)) :
    (execOp a.eval ⟨some d, .binOp .sub t x y t', ty, pos, af, gd⟩).run P w = .ok (.value (.int κ (κ.wrap (i - j)))) w := 
  (Yp .sub (E.eval hx) (E.eval hy) _ (by simp [binOp, Op.intArith]))
theorem R_mul (E : Env a n ds l) (hx : opv l x = some (.int κ i)) (hy : opv l y = some (.int κ j)) :
    (execOp a.eval ⟨some d, .binOp .mul t x y t', ty, pos, af, gd⟩).run P w = .ok (.value (.int κ (κ.wrap (i * j)))) w := 
  (Yp .mul (E.eval hx) (E.eval hy) _ (by simp [binOp, Op.intArith]))
theorem Wl {m : Int} (h : -9223372036854775808 ≤ m ∧ m ≤ 9223372036854775807) : IntKind.i64.wrap m = m := by
  simp only [IntKind.wrap, IntKind.signed, IntKind.bits]; simp; omega
theorem Qq (E : Env a n ds l) (hx : opv l x = some (.int .i64 i)) (hy : opv l y = some (.int .i64 j)) {m : Int} (hm : i + j = m) (hb : -9223372036854775808 ≤ m ∧ m ≤ 9223372036854775807) :
    (execOp a.eval ⟨some d, .binOp .add t x y t', ty, pos, af, gd⟩).run P w = .ok (.value (.int .i64 m)) w := by rw [R_add E hx hy, hm, Wl hb]
theorem Jg (E : Env a n ds l) (hx : opv l x = some (.int .i64 i)) (hy : opv l y = some (.int .i64 j)) {m : Int} (hm : i - j = m) (hb : -9223372036854775808 ≤ m ∧ m ≤ 9223372036854775807) :
    (execOp a.eval ⟨some d, .binOp .sub t x y t', ty, pos, af, gd⟩).run P w = .ok (.value (.int .i64 m)) w := by rw [R_sub E hx hy, hm, Wl hb]
theorem VJ (E : Env a n ds l) (hx : opv l x = some (.int .i64 i)) (hy : opv l y = some (.int .i64 j)) {m : Int} (hm : i * j = m) (hb : -9223372036854775808 ≤ m ∧ m ≤ 9223372036854775807) :
    (execOp a.eval ⟨some d, .binOp .mul t x y t', ty, pos, af, gd⟩).run P w = .ok (.value (.int .i64 m)) w := by rw [R_mul E hx hy, hm, Wl hb]
theorem R_quo (E : Env a n ds l) (hx : opv l x = some (.int κ i)) (hy : opv l y = some (.int κ j)) (hj : j ≠ 0) :
    (execOp a.eval ⟨some d, .binOp .quo t x y t', ty, pos, af, gd⟩).run P w = .ok (.value (.int κ (κ.wrap (i.tdiv j)))) w :=
  (Yp .quo (E.eval hx) (E.eval hy) _ (by simp [binOp, Op.intDiv, hj]))
theorem UH (E : Env a n ds l) (hx : opv l x = some (.int κ i)) (hy : opv l y = some (.int κ j)) (hj : j ≠ 0) :
    (execOp a.eval ⟨some d, .binOp .rem t x y t', ty, pos, af, gd⟩).run P w = .ok (.value (.int κ (i.tmod j))) w := 
  (Yp .rem (E.eval hx) (E.eval hy) _ (by simp [binOp, Op.intDiv, hj]))
theorem QG (E : Env a n ds l) (hx : opv l x = some (.int κ i)) (hy : opv l y = some (.int κ j)) :
    (execOp a.eval ⟨some d, .binOp .lss t x y t', ty, pos, af, gd⟩).run P w = .ok (.value (.bool (decide (i < j)))) w := 
  (Yp .lss (E.eval hx) (E.eval hy) _ (by simp [binOp, Op.intCmp]))
theorem ZV (E : Env a n ds l) (hx : opv l x = some (.int κ i)) (hy : opv l y = some (.int κ j)) :
    (execOp a.eval ⟨some d, .binOp .leq t x y t', ty, pos, af, gd⟩).run P w = .ok (.value (.bool (decide (i ≤ j)))) w := 
  (Yp .leq (E.eval hx) (E.eval hy) _ (by simp [binOp, Op.intCmp]))
theorem JT (E : Env a n ds l) (hx : opv l x = some (.int κ i)) (hy : opv l y = some (.int κ j)) :
    (execOp a.eval ⟨some d, .binOp .gtr t x y t', ty, pos, af, gd⟩).run P w = .ok (.value (.bool (decide (j < i)))) w := 
  (Yp .gtr (E.eval hx) (E.eval hy) _ (by simp [binOp, Op.intCmp]))
theorem YV (E : Env a n ds l) (hx : opv l x = some (.int κ i)) (hy : opv l y = some (.int κ j)) :
    (execOp a.eval ⟨some d, .binOp .geq t x y t', ty, pos, af, gd⟩).run P w = .ok (.value (.bool (decide (j ≤ i)))) w := 
  (Yp .geq (E.eval hx) (E.eval hy) _ (by simp [binOp, Op.intCmp]))
theorem Qv (E : Env a n ds l) (hx : opv l x = some (.int κ i)) (hy : opv l y = some (.int κ j)) :
    (execOp a.eval ⟨some d, .binOp .eql t x y t', ty, pos, af, gd⟩).run P w = .ok (.value (.bool (decide (i = j)))) w := 
  (Yp .eql (E.eval hx) (E.eval hy) _ (by simp [binOp, Op.intCmp]; rfl))
theorem Yv (E : Env a n ds l) (hx : opv l x = some (.int κ i)) (hy : opv l y = some (.int κ j)) :
    (execOp a.eval ⟨some d, .binOp .neq t x y t', ty, pos, af, gd⟩).run P w = .ok (.value (.bool (decide (i ≠ j)))) w := 
  (Yp .neq (E.eval hx) (E.eval hy) _ (by simp [binOp, Op.intCmp, bne]; rfl))
end arith
theorem R_len {A : Option Addr} {m c : Nat} {e : TypeId} (E : Env a n ds l) (hx : opv l x = some (.slice A m c)) (ht : P.underlying t = some (.slice e)) :
    (execOp a.eval ⟨some d, .call ⟨.builtin .len, #[x], #[t]⟩, ty, pos, af, gd⟩).run P w = .ok (.value (.int .i64 (m : Int))) w := 
  (by simp [execOp, resolve, invoke, builtin, E.eval hx, Builtin.len_, underlying, ht, goInt])
end
end Go.Sl
