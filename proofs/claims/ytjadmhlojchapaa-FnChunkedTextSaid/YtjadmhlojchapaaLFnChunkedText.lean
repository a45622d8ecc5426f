/- laws.FnChunkedText returns true for every input, and the input reads as it did: the row, proved; no conditions beyond the row's own. -/
import Derived.Test.YtjadmhlojchapaaWFnChunkedTexta
import Derived.Test.YtjadmhlojchapaaRows
import Derived.OpenShut
set_option linter.unusedVariables false
set_option linter.unusedSimpArgs false
namespace Go.Proofs.Ytjadmhlojchapaa
open Go.Proofs.Ytjadmhlojchapaa.wFnChunkedText Go Go.Sl Go.ChangeShapes Go.WideShapes Go.ChangeAt Go.RowKit
theorem Try.laidOut : laidOutB Try.prog = true := by kernel_rfl
theorem open_str {H : Type} {enc : TypeId × Value → H} {P : Program} {w : World} {base : Nat} {spare : Nat → Bool} {held : Bool} {r : Reach} {b0 : Nat} {t : TypeId} {v : Value} {d : DataW H} {ps : List MemPlace} (ht : P.underlying t = some .string) (hval : Value.okWide P w r b0 t v) (hd : DataW.Trod enc P w base spare held t v d ps) :
    ∃ l, l.length ≤ maxLen ∧ v = .string (bs l) ∧ d = .lit (.string l) ∧ ps = [] := by
  have hv : ∃ s, v = .string s := by
    simp only [Value.okWide, ht, Cell.okWide] at hval
    cases v <;> simp_all [Cell.ok]
  obtain ⟨s, rfl⟩ := hv
  obtain ⟨fuel, hf⟩ := hd
  obtain ⟨s', h, hx, hw⟩ := DataW.trod_string ht hf
  simp [Value.cells] at h
  subst h
  simp only [Prod.mk.injEq] at hx
  exact ⟨s.data.toList, hw, congrArg Value.string (by cases s; rfl), hx.1, hx.2⟩
theorem shut_str {H : Type} {enc : TypeId × Value → H} {P : Program} {w : World} {base : Nat} {spare : Nat → Bool} {held : Bool} {t : TypeId} {l : List UInt8} (ht : P.underlying t = some .string) (h : l.length ≤ maxLen) : DataW.Trod enc P w base spare held t (.string (bs l)) (.lit (.string l)) [] :=
  ⟨1, by have h2 : (bs l).size ≤ maxLen := by simpa [bs, ByteArray.size] using h
         simp [DataW.trod, Value.cells, ht, h2]; rfl⟩
set_option maxRecDepth 100000 in
theorem fnChunkedText_lifted (os : Os) (started : os.Started) (H : Type) (enc : TypeId × Value → H) :
    ReturnsInHanded {} Try.checked os 4 .any (Rows.fnChunkedTextSpec.pre6 enc Try.prog Try.f4 Rows.fnChunkedTextRow.domain false) (Rows.fnChunkedTextSpec.post enc Try.prog Try.f4 false true false false) := by
  refine returnsInHanded_of_change_sized (C := Try.checked) (by kernel_rfl) started (by kernel_rfl) Try.func4
    (ChangeSpec.witness6 (enc := enc) (C := Try.checked) false ⟨#[], #[.string ⟨#[]⟩, .int .u8 0], []⟩ 8 (by kernel_rfl) (by kernel_rfl) (by kernel_rfl) (by kernel_rfl)) ?_
  intro W base args ds gs before hval0 hW hcnd hsz0 _
  have hsz : (DataW.weightsEach Try.prog (Try.f4.params.toList ++ Rows.fnChunkedTextSpec.plain.varTypes Try.prog) (ds ++ gs)).all (· ≤ reachBytes) = true := hsz0
  have hval : ∀ (j : Nat) t v, Try.f4.params[j]? = some t → args[j]? = some v → Value.okWide Try.prog W .any base t v := hval0
  have hW' := hW
  obtain ⟨p, q, hA0, hV, rfl, hfz, hnd⟩ := hW
  have hA : DataW.TrodAll enc Try.prog W 0 (fun _ => true) true Try.f4.params.toList args.toList ds p := hA0
  rw [Try.params4] at hA hval hsz
  obtain ⟨v0, vs0, d0, ds0, p0, q0, hargs, rfl, rfl, h0, r0⟩ := trodAll_cons hA
  obtain ⟨v1, vs1, d1, ds1, p1, q1, rfl, rfl, rfl, h1, r1⟩ := trodAll_cons r0
  obtain ⟨rfl, rfl, rfl⟩ := trodAll_nil r1
  obtain rfl : args = #[v0, v1] := by cases args; simp_all
  obtain ⟨rfl, rfl⟩ := trodVars_none hV
  obtain ⟨s0, ws0, rfl, rfl, rfl⟩ := open_str Try.underlying9 (hval 0 9 v0 rfl rfl) h0
  obtain ⟨x1, rfl, rfl, rfl, w10⟩ := open_int Try.underlying5 (hval 1 5 v1 rfl rfl) h1
  have w1 := wf_u8 w10
  refine (PuC.close (laws_FnChunkedText2 w1)).mono fun e W' ⟨he, bel⟩ => ?_
  subst he
  exact ⟨_, rfl, _, _, _, [], _, [], hW', trodAll_mk1 (shut_bool Try.underlying4 _), (trodAll_cons_mk (shut_str Try.underlying9 ws0) (trodAll_cons_mk (shut_int Try.underlying5 w10) trodAll_mk0)), rfl, bel.frame _, fun h => by cases h⟩
/-- 'laws.FnChunkedText' returns true for every input, and the input reads as it did; no conditions beyond the row's own. -/
theorem fnChunkedText_holds : Rows.FnChunkedTextSaid :=
  OpenClaim.holds_of_wide 4 Try.f4 rfl rfl rfl rfl rfl rfl rfl ⟨rfl, rfl, rfl, rfl, rfl⟩ rfl rfl rfl rfl rfl (by kernel_rfl) Try.func4 (by kernel_rfl)
    (of_decide_eq_true (by kernel_rfl)) (by unfold Func.isWrapper; first | (rw [if_pos (by decide +kernel)]; kernel_rfl) | (rw [if_neg (by decide +kernel)]; exact ⟨rfl, rfl⟩))
    (fun os started H enc _ => fnChunkedText_lifted os started H enc)
#print axioms fnChunkedText_holds
end Go.Proofs.Ytjadmhlojchapaa
