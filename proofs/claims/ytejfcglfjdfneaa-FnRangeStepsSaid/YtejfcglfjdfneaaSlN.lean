import Derived.Test.YtejfcglfjdfneaaSlM
/-! Arguments that are structs. -/
set_option linter.unusedVariables false
namespace Go.Sl
open Go Go.ChangeShapes Go.WideShapes Go.RowKit
section
variable {H : Type} {enc : TypeId × Value → H} {P : Program} {W : World} {α β γ : Type}
def RS2 (R0 : Hp → List Value → α → Prop) (R1 : Hp → List Value → β → Prop) : Hp → List Value → α × β → Prop := fun M cs x => ∃ a b, cs = [a, b] ∧ R0 M [a] x.1 ∧ R1 M [b] x.2
def RS3 (R0 : Hp → List Value → α → Prop) (R1 : Hp → List Value → β → Prop) (R2 : Hp → List Value → γ → Prop) : Hp → List Value → α × β × γ → Prop := fun M cs x => ∃ a b c, cs = [a, b, c] ∧ R0 M [a] x.1 ∧ R1 M [b] x.2.1 ∧ R2 M [c] x.2.2
theorem Opens.struct2 {t t0 t1 : TypeId} {fs : Array Field} {R0 : Hp → List Value → α → Prop} {R1 : Hp → List Value → β → Prop} (ht : P.underlying t = some (.struct fs)) (hfs : fs.toList.map (fun f => (f.type, f.offset)) = [(t0, 0), (t1, 1)])
    (h0 : P.cellsOf t0 = 1) (h1 : P.cellsOf t1 = 1) (hc : P.cellsOf t = 2) (O0 : Opens enc P W t0 R0) (O1 : Opens enc P W t1 R1) : Opens enc P W t (RS2 R0 R1) := by
  intro n cs x h hw
  obtain ⟨xs, n, rfl, rfl, hl, hxl, hi⟩ := DataW.trod_struct ht h
  have hl3 : fs.toList.length = 2 := by simpa using congrArg List.length hfs
  obtain ⟨f0, f1, hf⟩ : ∃ f0 f1, fs = #[f0, f1] := by
    match fs, hl3 with
    | ⟨[f0, f1]⟩, _ => exact ⟨f0, f1, rfl⟩
  subst hf
  simp at hfs
  obtain ⟨⟨rfl, e0⟩, rfl, e1⟩ := hfs
  rw [hc] at hl
  match cs, hl with
  | [a, b], _ =>
  match xs, hxl with
  | [x0, x1], _ =>
  have g0 := hi 0 f0 rfl
  have g1 := hi 1 f1 rfl
  rw [e0, h0] at g0; rw [e1, h1] at g1
  simp only [DataW.weights, ht] at hw
  obtain ⟨y0, r0⟩ := O0 n [a] x0 g0 fun k hk => hw k (DataW.weights_mem_each (j := 0) rfl rfl k hk)
  obtain ⟨y1, r1⟩ := O1 n [b] x1 g1 fun k hk => hw k (DataW.weights_mem_each (j := 1) rfl rfl k hk)
  exact ⟨(y0, y1), a, b, rfl, r0, r1⟩
theorem Opens.struct3 {t t0 t1 t2 : TypeId} {fs : Array Field} {R0 : Hp → List Value → α → Prop} {R1 : Hp → List Value → β → Prop} {R2 : Hp → List Value → γ → Prop} (ht : P.underlying t = some (.struct fs)) (hfs : fs.toList.map (fun f => (f.type, f.offset)) = [(t0, 0), (t1, 1), (t2, 2)])
    (h0 : P.cellsOf t0 = 1) (h1 : P.cellsOf t1 = 1) (h2 : P.cellsOf t2 = 1) (hc : P.cellsOf t = 3) (O0 : Opens enc P W t0 R0) (O1 : Opens enc P W t1 R1) (O2 : Opens enc P W t2 R2) : Opens enc P W t (RS3 R0 R1 R2) := by
  intro n cs x h hw
  obtain ⟨xs, n, rfl, rfl, hl, hxl, hi⟩ := DataW.trod_struct ht h
  have hl3 : fs.toList.length = 3 := by simpa using congrArg List.length hfs
  obtain ⟨f0, f1, f2, hf⟩ : ∃ f0 f1 f2, fs = #[f0, f1, f2] := by
    match fs, hl3 with
    | ⟨[f0, f1, f2]⟩, _ => exact ⟨f0, f1, f2, rfl⟩
  subst hf
  simp at hfs
  obtain ⟨⟨rfl, e0⟩, ⟨rfl, e1⟩, rfl, e2⟩ := hfs
  rw [hc] at hl
  match cs, hl with
  | [a, b, c], _ =>
  match xs, hxl with
  | [x0, x1, x2], _ =>
  have g0 := hi 0 f0 rfl
  have g1 := hi 1 f1 rfl
  have g2 := hi 2 f2 rfl
  rw [e0, h0] at g0; rw [e1, h1] at g1; rw [e2, h2] at g2
  simp only [DataW.weights, ht] at hw
  obtain ⟨y0, r0⟩ := O0 n [a] x0 g0 fun k hk => hw k (DataW.weights_mem_each (j := 0) rfl rfl k hk)
  obtain ⟨y1, r1⟩ := O1 n [b] x1 g1 fun k hk => hw k (DataW.weights_mem_each (j := 1) rfl rfl k hk)
  obtain ⟨y2, r2⟩ := O2 n [c] x2 g2 fun k hk => hw k (DataW.weights_mem_each (j := 2) rfl rfl k hk)
  exact ⟨(y0, y1, y2), a, b, c, rfl, r0, r1, r2⟩
/-- an argument that is a struct -/
theorem open_agg {t : TypeId} {fs : Array Field} {R : Hp → List Value → α → Prop} {v : Value} {d : DataW H} {p : List MemPlace} {ts : List TypeId} {ds : List (DataW H)} {j : Nat} {r : Reach} {b0 : Nat}
    (O : Opens enc P W t R) (hu : P.underlying t = some (.struct fs)) (hsz : (DataW.weightsEach P ts ds).all (· ≤ reachBytes) = true) (ht : ts[j]? = some t) (hd : ds[j]? = some d)
    (hval : Value.okWide P W r b0 t v) (h : DataW.Trod enc P W 0 (fun _ => true) true t v d p) : ∃ cs x, v = .agg cs ∧ R (HpOf W) cs.toList x := by
  obtain ⟨cs, rfl, _⟩ := okWide_struct hu hval
  obtain ⟨n, hn⟩ := h
  obtain ⟨y, hy⟩ := O n _ _ hn fun k hk => by
    have := List.all_eq_true.1 hsz _ (DataW.weights_mem_each ht hd k hk)
    simpa using this
  exact ⟨cs, y, rfl, hy⟩
/-- a condition: its kind, its number, its list -/
theorem open_pred {cs : Array Value} {x : Int × Int × List Int} {M : Hp} (h : RS3 RIntW RIntW (RSl 1 RIntW) M cs.toList x) :
    ∃ k n w l, cs = #[.int .i64 k, .int .i64 n, w] ∧ RdI M w l ∧ (-9223372036854775808 ≤ n ∧ n ≤ 9223372036854775807) ∧ (-9223372036854775808 ≤ k ∧ k ≤ 9223372036854775807) := by
  obtain ⟨a, b, c, hcs, ⟨h1, k1⟩, ⟨h2, k2⟩, w, h3, h4⟩ := h
  simp only [List.cons.injEq, and_true] at h1 h2 h3
  obtain ⟨l, h5, _⟩ := h4.intW
  refine ⟨x.1, x.2.1, w, l, ?_, h5, k2, k1⟩
  apply Array.toList_inj.1
  rw [hcs, h1, h2, h3]
theorem open_key {cs : Array Value} {x : Int × Int} {M : Hp} (h : RS2 RIntW RIntW M cs.toList x) :
    ∃ k n, cs = #[.int .i64 k, .int .i64 n] ∧ (-9223372036854775808 ≤ n ∧ n ≤ 9223372036854775807) ∧ (-9223372036854775808 ≤ k ∧ k ≤ 9223372036854775807) := by
  obtain ⟨a, b, hcs, ⟨h1, k1⟩, ⟨h2, k2⟩⟩ := h
  simp only [List.cons.injEq, and_true] at h1 h2
  refine ⟨x.1, x.2, ?_, k2, k1⟩
  apply Array.toList_inj.1
  rw [hcs, h1, h2]
end
end Go.Sl
