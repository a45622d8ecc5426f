/- laws.FnUniques returns true for every input, and the input reads as it did: the row, proved; no conditions beyond the row's own. -/
import Derived.Test.YtahbobhbookehaaGreatWFnUniquesd
import Derived.Test.YtahbobhbookehaaGreatRows
import Derived.OpenShut
set_option linter.unusedVariables false
set_option linter.unusedSimpArgs false
namespace Go.Proofs.YtahbobhbookehaaGreat
open Go.Proofs.YtahbobhbookehaaGreat.wFnUniques Go Go.Sl Go.ChangeShapes Go.WideShapes Go.ChangeAt Go.RowKit
theorem Tryz.laidOut : laidOutB Tryz.prog = true := by kernel_rfl
set_option maxRecDepth 100000 in
theorem fnUniques_lifted (os : Os) (started : os.Started) (H : Type) (enc : TypeId × Value → H) :
    ReturnsInHanded {} Tryz.checked os 3 .any (Rows.fnUniquesSpec.pre6 enc Tryz.prog Tryz.f3 Rows.fnUniquesRow.domain false) (Rows.fnUniquesSpec.post enc Tryz.prog Tryz.f3 false true false false) := by
  refine returnsInHanded_of_change_sized (C := Tryz.checked) (by kernel_rfl) started (by kernel_rfl) Tryz.func3
    (ChangeSpec.witness6 (enc := enc) (C := Tryz.checked) false ⟨#[], #[.slice none 0 0], []⟩ 8 (by kernel_rfl) (by kernel_rfl) (by kernel_rfl) (by kernel_rfl)) ?_
  intro W base args ds gs before hval0 hW hcnd hsz0 _
  have hsz : (DataW.weightsEach Tryz.prog (Tryz.f3.params.toList ++ Rows.fnUniquesSpec.plain.varTypes Tryz.prog) (ds ++ gs)).all (· ≤ reachBytes) = true := hsz0
  have hval : ∀ (j : Nat) t v, Tryz.f3.params[j]? = some t → args[j]? = some v → Value.okWide Tryz.prog W .any base t v := hval0
  have hW' := hW
  obtain ⟨p, q, hA0, hV, rfl, hfz, hnd⟩ := hW
  have hA : DataW.TrodAll enc Tryz.prog W 0 (fun _ => true) true Tryz.f3.params.toList args.toList ds p := hA0
  rw [Tryz.params3] at hA hval hsz
  obtain ⟨v0, vs0, d0, ds0, p0, q0, hargs, rfl, rfl, h0, r0⟩ := trodAll_cons hA
  obtain ⟨rfl, rfl, rfl⟩ := trodAll_nil r0
  obtain rfl : args = #[v0] := by cases args; simp_all
  obtain ⟨rfl, rfl⟩ := trodVars_none hV
  have lt0 := trod_lt' h0
  obtain ⟨l0, z00⟩ := open_sl (Opens.int Tryz.underlying3) Tryz.underlying22 (by kernel_rfl) (of_decide_eq_true (by kernel_rfl)) hsz (j := 0) (t := 22) rfl rfl (hval 0 22 v0 rfl rfl) h0
  obtain ⟨l0, z0, w0⟩ := z00.intW
  refine (PuC.close (laws_FnUniques z0 w0)).mono fun e W' ⟨he, bel⟩ => ?_
  subst he
  exact ⟨_, rfl, _, _, _, [], _, [], hW', trodAll_mk1 (shut_bool Tryz.underlying4 _), (trodAll_cons_mk (Below.trod Tryz.laidOut (by kernel_rfl) (of_decide_eq_true (by kernel_rfl)) h0 bel lt0) trodAll_mk0), rfl, bel.frame _, fun h => by cases h⟩
/-- 'laws.FnUniques' returns true for every input, and the input reads as it did; no conditions beyond the row's own. -/
theorem fnUniques_holds : Rows.FnUniquesSaid :=
  OpenClaim.holds_of_wide 3 Tryz.f3 rfl rfl rfl rfl rfl rfl rfl ⟨rfl, rfl, rfl, rfl, rfl⟩ rfl rfl rfl rfl rfl (by kernel_rfl) Tryz.func3 (by kernel_rfl)
    (of_decide_eq_true (by kernel_rfl)) (by unfold Func.isWrapper; first | (rw [if_pos (by decide +kernel)]; kernel_rfl) | (rw [if_neg (by decide +kernel)]; exact ⟨rfl, rfl⟩))
    (fun os started H enc _ => fnUniques_lifted os started H enc)
#print axioms fnUniques_holds
end Go.Proofs.YtahbobhbookehaaGreat
