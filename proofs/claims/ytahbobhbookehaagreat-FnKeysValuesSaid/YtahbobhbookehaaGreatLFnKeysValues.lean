/- laws.FnKeysValues returns true for every input, and the input reads as it did: the row, proved; no conditions beyond the row's own. -/
import Derived.Test.YtahbobhbookehaaGreatWFnKeysValuesd
import Derived.Test.YtahbobhbookehaaGreatRows
import Derived.OpenShut
set_option linter.unusedVariables false
set_option linter.unusedSimpArgs false
namespace Go.Proofs.YtahbobhbookehaaGreat
open Go.Proofs.YtahbobhbookehaaGreat.wFnKeysValues Go Go.Sl Go.ChangeShapes Go.WideShapes Go.ChangeAt Go.RowKit
theorem Tryz.laidOut : laidOutB Tryz.prog = true := by kernel_rfl
set_option maxRecDepth 100000 in
theorem fnKeysValues_lifted (os : Os) (started : os.Started) (H : Type) (enc : TypeId × Value → H) :
    ReturnsInHanded {} Tryz.checked os 4 .any (Rows.fnKeysValuesSpec.pre6 enc Tryz.prog Tryz.f4 Rows.fnKeysValuesRow.domain false) (Rows.fnKeysValuesSpec.post enc Tryz.prog Tryz.f4 false true false false) := by
  refine returnsInHanded_of_change_sized (C := Tryz.checked) (by kernel_rfl) started (by kernel_rfl) Tryz.func4
    (ChangeSpec.witness6 (enc := enc) (C := Tryz.checked) false ⟨#[], #[.slice none 0 0, .slice none 0 0, .agg #[.int .i64 0, .int .i64 0, .slice none 0 0]], []⟩ 8 (by kernel_rfl) (by kernel_rfl) (by kernel_rfl) (by kernel_rfl)) ?_
  intro W base args ds gs before hval0 hW hcnd hsz0 _
  have hsz : (DataW.weightsEach Tryz.prog (Tryz.f4.params.toList ++ Rows.fnKeysValuesSpec.plain.varTypes Tryz.prog) (ds ++ gs)).all (· ≤ reachBytes) = true := hsz0
  have hval : ∀ (j : Nat) t v, Tryz.f4.params[j]? = some t → args[j]? = some v → Value.okWide Tryz.prog W .any base t v := hval0
  have hW' := hW
  obtain ⟨p, q, hA0, hV, rfl, hfz, hnd⟩ := hW
  have hA : DataW.TrodAll enc Tryz.prog W 0 (fun _ => true) true Tryz.f4.params.toList args.toList ds p := hA0
  rw [Tryz.params4] at hA hval hsz
  obtain ⟨v0, vs0, d0, ds0, p0, q0, hargs, rfl, rfl, h0, r0⟩ := trodAll_cons hA
  obtain ⟨v1, vs1, d1, ds1, p1, q1, rfl, rfl, rfl, h1, r1⟩ := trodAll_cons r0
  obtain ⟨v2, vs2, d2, ds2, p2, q2, rfl, rfl, rfl, h2, r2⟩ := trodAll_cons r1
  obtain ⟨rfl, rfl, rfl⟩ := trodAll_nil r2
  obtain rfl : args = #[v0, v1, v2] := by cases args; simp_all
  obtain ⟨rfl, rfl⟩ := trodVars_none hV
  have lt0 := trod_lt' h0
  obtain ⟨l0, z00⟩ := open_sl (Opens.struct2 Tryz.underlying29 (by kernel_rfl) (by kernel_rfl) (by kernel_rfl) (by kernel_rfl) (Opens.int Tryz.underlying3) (Opens.int Tryz.underlying3)) Tryz.underlying25 (by kernel_rfl) (of_decide_eq_true (by kernel_rfl)) hsz (j := 0) (t := 25) rfl rfl (hval 0 25 v0 rfl rfl) h0
  obtain ⟨l0, z0, w0⟩ := pairW z00
  have lt1 := trod_lt' h1
  obtain ⟨l1, z10⟩ := open_sl (Opens.struct2 Tryz.underlying29 (by kernel_rfl) (by kernel_rfl) (by kernel_rfl) (by kernel_rfl) (Opens.int Tryz.underlying3) (Opens.int Tryz.underlying3)) Tryz.underlying25 (by kernel_rfl) (of_decide_eq_true (by kernel_rfl)) hsz (j := 1) (t := 25) rfl rfl (hval 1 25 v1 rfl rfl) h1
  obtain ⟨l1, z1, w1⟩ := pairW z10
  have lt2 := trod_lt' h2
  obtain ⟨cs2, xx2, rfl, zz2⟩ := open_agg (Opens.struct3 Tryz.underlying38 (by kernel_rfl) (by kernel_rfl) (by kernel_rfl) (by kernel_rfl) (by kernel_rfl) (Opens.int Tryz.underlying3) (Opens.int Tryz.underlying3) (Opens.slice (Opens.int Tryz.underlying3) Tryz.underlying22 (by kernel_rfl) (of_decide_eq_true (by kernel_rfl)))) Tryz.underlying38 hsz (j := 2) (t := 38) rfl rfl (hval 2 38 v2 rfl rfl) h2
  obtain ⟨pk2, pn2, pw2, pl2, rfl, z2, y2, yk2⟩ := open_pred zz2
  refine (PuC.close (laws_FnKeysValues z0 z1 z2 y2 w0 w1)).mono fun e W' ⟨he, bel⟩ => ?_
  subst he
  exact ⟨_, rfl, _, _, _, [], _, [], hW', trodAll_mk1 (shut_bool Tryz.underlying4 _), (trodAll_cons_mk (Below.trod Tryz.laidOut (by kernel_rfl) (of_decide_eq_true (by kernel_rfl)) h0 bel lt0) (trodAll_cons_mk (Below.trod Tryz.laidOut (by kernel_rfl) (of_decide_eq_true (by kernel_rfl)) h1 bel lt1) (trodAll_cons_mk (Below.trod Tryz.laidOut (by kernel_rfl) (of_decide_eq_true (by kernel_rfl)) h2 bel lt2) trodAll_mk0))), rfl, bel.frame _, fun h => by cases h⟩
/-- 'laws.FnKeysValues' returns true for every input, and the input reads as it did; no conditions beyond the row's own. -/
theorem fnKeysValues_holds : Rows.FnKeysValuesSaid :=
  OpenClaim.holds_of_wide 4 Tryz.f4 rfl rfl rfl rfl rfl rfl rfl ⟨rfl, rfl, rfl, rfl, rfl⟩ rfl rfl rfl rfl rfl (by kernel_rfl) Tryz.func4 (by kernel_rfl)
    (of_decide_eq_true (by kernel_rfl)) (by unfold Func.isWrapper; first | (rw [if_pos (by decide +kernel)]; kernel_rfl) | (rw [if_neg (by decide +kernel)]; exact ⟨rfl, rfl⟩))
    (fun os started H enc _ => fnKeysValues_lifted os started H enc)
#print axioms fnKeysValues_holds
end Go.Proofs.YtahbobhbookehaaGreat
