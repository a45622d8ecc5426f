import Derived.Test.YtejfcglfjdfneaaSlJ
import Derived.SizedLaws
import Derived.ChangeOld
import Derived.ChangeSlices
import Derived.Below
import Derived.Carry
import Derived.ProofKit
import Derived.Laws.Tables
set_option linter.unusedVariables false
/-! Arguments of a row, opened as frozen readings of the whole heap; and what a law's walk says of the world. -/
namespace Go.Sl
open Go Go.ChangeShapes Go.WideShapes Go.RowKit
/-- the whole heap, frozen -/
def HpOf (W : World) : Hp := ⟨fun b => W.heap[b]?, envS W⟩
theorem cellM_HpOf (W : World) (a : Addr) : cellM (HpOf W) a = W.cell? a := rfl
theorem St_HpOf (W : World) : St W (HpOf W) [] := St.nil_of ⟨rfl, fun _ _ h => h⟩
theorem wf_i64 {n : Int} (h : (Lit.int .i64 n).wf = true) : -9223372036854775808 ≤ n ∧ n ≤ 9223372036854775807 := by
  simp [Lit.wf, IntKind.min, IntKind.max, IntKind.signed, IntKind.bits] at h; omega
theorem wf_i8 {n : Int} (h : (Lit.int .i8 n).wf = true) : -128 ≤ n ∧ n ≤ 127 := by
  simp [Lit.wf, IntKind.min, IntKind.max, IntKind.signed, IntKind.bits] at h; omega
/-- a law's walk, as a call -/
def PuC (P : Program) (g : FuncId) (M : Hp) (args : List Value) (q : Value → Hp → Prop) : Prop :=
  ∀ w M1 H, Hp.le M M1 → St w M1 H → Calls P g args.toArray w (fun e w' => ∃ v, e = .returned v ∧ ∃ M2, Hp.le M1 M2 ∧ q v M2 ∧ St w' M2 H)
theorem PuC_enter {P : Program} {g : FuncId} {fn : Func} {c : Code} {args : List Value} {M : Hp} {q : Value → Hp → Prop}
    (hf : P.funcs[g]? = some fn) (hb : fn.body = some c) {m : Nat} (hm : fn.ntmps = m) (hl : Nat.ble args.length m = true)
    (h : ∀ a w M1 H, Hp.le M M1 → St w M1 H → Env a m [] (initL args 0) →
      WP none P c (FPost P fn fun e w' => ∃ v, e = .returned v ∧ ∃ M2, Hp.le M1 M2 ∧ q v M2 ∧ St w' M2 H) a w) : PuC P g M args q :=
  fun w M1 H hM S => Calls_enter hf hb hm hl fun a E => h a w M1 H hM S E
theorem PuC.pu {P : Program} {g : FuncId} {first cap : Array Value} {args full : List Value} {M : Hp} {q : Value → Hp → Prop} (hc : ∀ args w, (callFunc g args).run P w = .ok (.enter g args) w) (e : first.toList ++ args ++ cap.toList = full) (h : PuC P g M full q) :
    Pu P (.func (.func g) first cap) M args q :=
  fun w M1 H hM S => CallV.func hc (by rw [e]; exact h w M1 H hM S)
theorem PuC.close {P : Program} {g : FuncId} {W : World} {args : List Value} (h : PuC P g (HpOf W) args (fun v _ => v = .bool true)) :
    Calls P g args.toArray W (fun e W' => e = .returned (.bool true) ∧ Below W.heap.size W W') := by
  refine (h W _ [] (Hp.le.refl _) (St_HpOf W)).mono fun e W' ⟨v, he, M2, hM, hv, S⟩ => ?_
  subst hv
  have ag := agree_le hM S.imm
  have env : envS W' = envS W := ag.1
  simp only [envS, Prod.mk.injEq] at env
  have keep : ∀ k, k < W.heap.size → W'.heap[k]? = W.heap[k]? := fun k hk => by
    rw [Array.getElem?_eq_getElem hk]; exact ag.2 k _ (Array.getElem?_eq_getElem hk)
  refine ⟨he, env.1, env.2.1, env.2.2, ?_, keep⟩
  by_cases h0 : W.heap.size = 0
  · omega
  · have h2 := keep (W.heap.size - 1) (by omega)
    have h3 : W.heap[W.heap.size - 1]? = some _ := Array.getElem?_eq_getElem (by omega)
    rw [h3] at h2
    have := (Array.getElem?_eq_some_iff.1 h2).1; omega
section
variable {H : Type} {enc : TypeId × Value → H} {P : Program} {W : World} {α : Type}
/-- a type's readings, as a relation over the whole heap -/
def Opens (enc : TypeId × Value → H) (P : Program) (W : World) (t : TypeId) (R : Hp → List Value → α → Prop) : Prop :=
  ∀ n cs x, DataW.trod enc P W 0 (fun _ => true) true n t cs = some x → (∀ k ∈ x.1.weights P t, k ≤ reachBytes) → ∃ y, R (HpOf W) cs y
/-- a number of 64 bits in a cell -/
def RIntW : Hp → List Value → Int → Prop := fun _ cs x => cs = [.int .i64 x] ∧ -9223372036854775808 ≤ x ∧ x ≤ 9223372036854775807
theorem Opens.int {t : TypeId} (ht : P.underlying t = some (.int .i64)) : Opens enc P W t RIntW := by
  intro n cs x h _
  obtain ⟨m, h1, _, hw⟩ := DataW.trod_int ht h
  exact ⟨m, h1, wf_i64 hw⟩
theorem cells?_some {a : Addr} {n : Nat} {cs : List Value} (h : W.cells? 0 a n = some cs) : cs.length = n ∧ ∀ (j : Nat) c, cs[j]? = some c → W.cell? (a.add j) = some c := by
  obtain ⟨_, h1, h2⟩ := World.cells?_some h
  exact ⟨h1, fun j c hj => (h2 j (by rw [← h1]; exact (List.getElem?_eq_some_iff.1 hj).1)).trans hj⟩
theorem weights_all {e : TypeId} {n : Nat} : ∀ {ds : List (DataW H)} {d : DataW H}, d ∈ ds → n ∈ d.weights P e → n ∈ DataW.weightsAll P e ds
  | d0 :: ds, d, hd, hn => by
    simp only [DataW.weightsAll, List.mem_append]
    rcases List.mem_cons.1 hd with rfl | hd
    · exact .inl hn
    · exact .inr (weights_all hd hn)
theorem Opens.slice {t e : TypeId} {sz : Nat} {R : Hp → List Value → α → Prop} (O : Opens enc P W e R) (ht : P.underlying t = some (.slice e)) (hc : P.cellsOf e = sz) (hb : 8 ≤ P.bytesOf e) : Opens enc P W t (RSl sz R) := by
  intro n cs x h hw
  rcases DataW.trod_slice ht h with ⟨rfl, rfl⟩ | ⟨a, len, cap, elems, rest, n, rfl, rfl, rfl, hbase, hl, hm, hlen, hel, hsp, hns⟩
  · exact ⟨[], _, rfl, none, 0, rfl, by simp, by simp, fun i x hx => by simp at hx⟩
  · have hwt := hw ((elems.length + rest.length) * P.bytesOf e) (by simp [DataW.weights, ht])
    have hk : ∀ i : Fin len, ∃ y, ∃ cs : List Value, cs.length = sz ∧ R (HpOf W) cs y ∧ ∀ j c, cs[j]? = some c → cellM (HpOf W) (a.add (i * sz + j)) = some c := by
      intro i
      have h1 := hel i i.2
      have hi : elems[i.1]? = some elems[i.1] := List.getElem?_eq_getElem (by omega)
      rw [hi, Option.bind_eq_some_iff] at h1
      obtain ⟨cs, h2, h3⟩ := h1
      obtain ⟨h4, h5⟩ := cells?_some h2
      obtain ⟨y, hy⟩ := O n cs _ h3 fun k hk => hw k (by
        simp only [DataW.weights, ht, List.mem_cons, List.mem_append]
        exact .inr (.inl (weights_all (List.mem_map_of_mem (List.getElem_mem _)) hk)))
      refine ⟨y, cs, by rw [h4, hc], hy, fun j c hj => ?_⟩
      rw [cellM_HpOf]
      have := h5 j c hj
      rw [add_add, hc] at this; exact this
    refine ⟨List.ofFn fun i => (hk i).choose, _, rfl, some a, cap, by simp, by simpa using hl, ?_, fun i x hx => ?_⟩
    · have h1 : elems.length * 8 ≤ (elems.length + rest.length) * P.bytesOf e := Nat.mul_le_mul (by omega) hb
      simp only [List.length_ofFn]
      have h2 : reachBytes = 140737488351232 := rfl
      omega
    · rw [List.getElem?_ofFn] at hx
      split at hx
      · rename_i hi
        cases hx
        obtain ⟨cs, h1, h2, h3⟩ := (hk ⟨i, hi⟩).choose_spec
        exact ⟨a, cs, rfl, h1, h2, h3⟩
      · cases hx
theorem RdS.map {β γ : Type} {sz : Nat} {R : Hp → List Value → β → Prop} {R' : Hp → List Value → γ → Prop} {M : Hp} {v : Value} {l : List β} (f : β → γ) (h : RdS sz R M v l) (hR : ∀ cs x, x ∈ l → R M cs x → R' M cs (f x)) : RdS sz R' M v (l.map f) := by
  obtain ⟨a, cap, e, h1, h2, h3⟩ := h
  refine ⟨a, cap, by simpa using e, by simpa using h1, by simpa using h2, fun i y hy => ?_⟩
  rw [List.getElem?_map, Option.map_eq_some_iff] at hy
  obtain ⟨x, hx, rfl⟩ := hy
  obtain ⟨ad, cs, e1, e2, e3, e4⟩ := h3 i x hx
  exact ⟨ad, cs, e1, e2, hR cs x (List.mem_of_getElem? hx) e3, e4⟩
theorem RdS.rel {β γ : Type} {sz : Nat} {R : Hp → List Value → β → Prop} {R' : Hp → List Value → γ → Prop} {M : Hp} {v : Value} {l : List β} (h : RdS sz R M v l) (q : γ → Prop) (hR : ∀ cs x, R M cs x → ∃ y, R' M cs y ∧ q y) : ∃ l', RdS sz R' M v l' ∧ ∀ y ∈ l', q y := by
  obtain ⟨a, cap, e, h1, h2, h3⟩ := h
  have hk : ∀ i : Fin l.length, ∃ y, q y ∧ ∃ ad cs, a = some ad ∧ cs.length = sz ∧ R' M cs y ∧ ∀ j c, cs[j]? = some c → cellM M (ad.add (i * sz + j)) = some c := fun i => by
    obtain ⟨ad, cs, e1, e2, e3, e4⟩ := h3 i _ (List.getElem?_eq_getElem i.2)
    obtain ⟨y, hy, hq⟩ := hR _ _ e3
    exact ⟨y, hq, ad, cs, e1, e2, hy, e4⟩
  refine ⟨List.ofFn fun i => (hk i).choose, ⟨a, cap, by simpa using e, by simpa using h1, by simpa using h2, fun i y hy => ?_⟩, fun y hy => ?_⟩
  · rw [List.getElem?_ofFn] at hy
    split at hy
    · rename_i hi; cases hy; exact (hk ⟨i, hi⟩).choose_spec.2
    · cases hy
  · obtain ⟨i, rfl⟩ := List.mem_ofFn.1 hy
    exact (hk i).choose_spec.1
theorem RdS.intW {v : Value} {l : List Int} {M : Hp} (h : RdS 1 RIntW M v l) : ∃ l', RdI M v l' ∧ ∀ x ∈ l', -9223372036854775808 ≤ x ∧ x ≤ 9223372036854775807 :=
  h.rel (R' := RInt) _ fun cs x hx => ⟨x, hx.1, hx.2⟩
theorem RdS.intWW {v : Value} {l : List (List Int)} {M : Hp} (h : RdS 1 (RSl 1 RIntW) M v l) : ∃ l', RdII M v l' ∧ ∀ x ∈ l', ∀ y ∈ x, -9223372036854775808 ≤ y ∧ y ≤ 9223372036854775807 :=
  h.rel (R' := RSl 1 RInt) _ fun cs x ⟨v, hv, hx⟩ => let ⟨l', h1, h2⟩ := hx.intW; ⟨l', ⟨v, hv, h1⟩, h2⟩
/-- an argument that is a slice -/
theorem open_sl {t e : TypeId} {sz : Nat} {β : Type} {R : Hp → List Value → β → Prop} {v : Value} {d : DataW H} {p : List MemPlace} {ts : List TypeId} {ds : List (DataW H)} {j : Nat} {r : Reach} {b0 : Nat}
    (O : Opens enc P W e R) (hu : P.underlying t = some (.slice e)) (hc : P.cellsOf e = sz) (hb : 8 ≤ P.bytesOf e) (hsz : (DataW.weightsEach P ts ds).all (· ≤ reachBytes) = true) (ht : ts[j]? = some t) (hd : ds[j]? = some d)
    (hval : Value.okWide P W r b0 t v) (h : DataW.Trod enc P W 0 (fun _ => true) true t v d p) : ∃ l, RdS sz R (HpOf W) v l := by
  obtain ⟨a, len, cap, rfl⟩ := okWide_slice hu hval
  obtain ⟨n, hn⟩ := h
  obtain ⟨y, v, hv, hy⟩ := (O.slice hu hc hb) n _ _ hn fun k hk => by
    have := List.all_eq_true.1 hsz _ (DataW.weights_mem_each ht hd k hk)
    simpa using this
  simp [Value.cells] at hv
  subst hv
  exact ⟨y, hy⟩
theorem trod_lt' {t : TypeId} {v : Value} {d : DataW H} {p : List MemPlace} (h : DataW.Trod enc P W 0 (fun _ => true) true t v d p) : ∀ x ∈ p, x.block < W.heap.size := by
  obtain ⟨m, hm⟩ := h; exact DataW.trod_lt m _ _ _ hm
end
end Go.Sl
