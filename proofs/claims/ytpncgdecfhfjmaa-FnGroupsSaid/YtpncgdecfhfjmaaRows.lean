/-
  No cell of these rows narrows 'for every input' (looked for: loops, veiled, ifaces, maps, wideKeys, modest, calm, conditions, laid).
  DERIVED. THE GIVEN ROWS OF THIS SEAT. 5 by the template 'for every input the law returns true; each argument reads behind the call as it read before'; 0 by the template 'total and deterministic' (their statements: YtpncgdecfhfjmaaTotals.lean).
  GIVEN WITH THE SEED: the statements are not yours to turn. If you find one false, say at which input.
  Laid BY PROGRAM, IN A SANDBOX (cutbox-rows.mjs): the forced cells as the released guide's own fill.sh prints them over the translation 5a261b7889551ccd… (all of the seat's roots in one cut). By AI agents, Wed Nov 11 2026. No macro, syntax, notation, axiom, sorry.
-/
import Derived.Test.YtpncgdecfhfjmaaChecked
import GoSem.Claim
import GoSem.ClaimJoined
import GoSem.ClaimMapViews
import Derived.JoinedTies
import Derived.KernelRfl
namespace Go.Proofs.Ytpncgdecfhfjmaa
/- THE CELL 'sum', in the pinned program and in every row, IS THE sha256 OF THE DUMP (.gsa) THAT YtpncgdecfhfjmaaProg.lean LOADS. Nothing in Lean hashes anything: it is a label: what it is worth is what the hold of that sum in a sandbox is worth. -/
noncomputable def Try.pinned : Pinned := { name := "ytpncgdecfhfjmaa", sum := "5a261b7889551ccd8f735ffaed1cec01a162b235212e2ea7e4ce5a57f81161eb", checked := Try.checked }
namespace Rows
def none {H : Type} : Left H := { results := [], args := [] }

/-- 'laws.FnGroupsBack': WHATEVER THE INPUT: true; the input reads as it did. -/
def fnGroupsBackSpec : ChangeSpec := { name := "fnGroupsBack", fn := fun _ => fun
  | [d1, d2] => { results := [.lit (.bool true)], args := [d1, d2] }
  | _ => none }
def fnGroupsBackRow : OpenClaim := { program := "ytpncgdecfhfjmaa", sum := "5a261b7889551ccd8f735ffaed1cec01a162b235212e2ea7e4ce5a57f81161eb", func := "pub-sheafwork/laws.FnGroupsBack", spec := "fnGroupsBack", inPlace := ["internal/reflectlite.ValueOf", "internal/reflectlite.Swapper", "(internal/reflectlite.Value).Len"], unfollowed := true, recurses := true, apart := false }
def FnGroupsBackSaid : Prop := fnGroupsBackRow.holds Try.pinned (OpenSpec.ofChange fnGroupsBackSpec)

/-- ITS FALSE NEIGHBOUR: 'it returns false'. Refute it at one input. -/
def fnGroupsBackWrong : ChangeSpec := { name := "fnGroupsBack", fn := fun _ => fun
  | [d1, d2] => { results := [.lit (.bool false)], args := [d1, d2] }
  | _ => none }
def FnGroupsBackWrongFalsely : Prop := fnGroupsBackRow.holds Try.pinned (OpenSpec.ofChange fnGroupsBackWrong)

/-- 'laws.FnGroupsMapped': WHATEVER THE INPUT: true; the input reads as it did. -/
def fnGroupsMappedSpec : ChangeSpec := { name := "fnGroupsMapped", fn := fun _ => fun
  | [d1, d2, d3] => { results := [.lit (.bool true)], args := [d1, d2, d3] }
  | _ => none }
def fnGroupsMappedRow : OpenClaim := { program := "ytpncgdecfhfjmaa", sum := "5a261b7889551ccd8f735ffaed1cec01a162b235212e2ea7e4ce5a57f81161eb", func := "pub-sheafwork/laws.FnGroupsMapped", spec := "fnGroupsMapped", inPlace := ["internal/reflectlite.ValueOf", "internal/reflectlite.Swapper", "(internal/reflectlite.Value).Len"], unfollowed := true, recurses := true, apart := false }
def FnGroupsMappedSaid : Prop := fnGroupsMappedRow.holds Try.pinned (OpenSpec.ofChange fnGroupsMappedSpec)

/-- ITS FALSE NEIGHBOUR: 'it returns false'. Refute it at one input. -/
def fnGroupsMappedWrong : ChangeSpec := { name := "fnGroupsMapped", fn := fun _ => fun
  | [d1, d2, d3] => { results := [.lit (.bool false)], args := [d1, d2, d3] }
  | _ => none }
def FnGroupsMappedWrongFalsely : Prop := fnGroupsMappedRow.holds Try.pinned (OpenSpec.ofChange fnGroupsMappedWrong)

/-- 'laws.FnGroups': WHATEVER THE INPUT: true; the input reads as it did. -/
def fnGroupsSpec : ChangeSpec := { name := "fnGroups", fn := fun _ => fun
  | [d1, d2] => { results := [.lit (.bool true)], args := [d1, d2] }
  | _ => none }
def fnGroupsRow : OpenClaim := { program := "ytpncgdecfhfjmaa", sum := "5a261b7889551ccd8f735ffaed1cec01a162b235212e2ea7e4ce5a57f81161eb", func := "pub-sheafwork/laws.FnGroups", spec := "fnGroups", inPlace := ["internal/reflectlite.ValueOf", "internal/reflectlite.Swapper", "(internal/reflectlite.Value).Len"], unfollowed := true, recurses := true, apart := false }
def FnGroupsSaid : Prop := fnGroupsRow.holds Try.pinned (OpenSpec.ofChange fnGroupsSpec)

/-- ITS FALSE NEIGHBOUR: 'it returns false'. Refute it at one input. -/
def fnGroupsWrong : ChangeSpec := { name := "fnGroups", fn := fun _ => fun
  | [d1, d2] => { results := [.lit (.bool false)], args := [d1, d2] }
  | _ => none }
def FnGroupsWrongFalsely : Prop := fnGroupsRow.holds Try.pinned (OpenSpec.ofChange fnGroupsWrong)

/-- 'laws.FnWithoutPlaces': WHATEVER THE INPUT: true; the input reads as it did. -/
def fnWithoutPlacesSpec : ChangeSpec := { name := "fnWithoutPlaces", fn := fun _ => fun
  | [d1, d2] => { results := [.lit (.bool true)], args := [d1, d2] }
  | _ => none }
def fnWithoutPlacesRow : OpenClaim := { program := "ytpncgdecfhfjmaa", sum := "5a261b7889551ccd8f735ffaed1cec01a162b235212e2ea7e4ce5a57f81161eb", func := "pub-sheafwork/laws.FnWithoutPlaces", spec := "fnWithoutPlaces", unfollowed := true, recurses := true, apart := false }
def FnWithoutPlacesSaid : Prop := fnWithoutPlacesRow.holds Try.pinned (OpenSpec.ofChange fnWithoutPlacesSpec)

/-- ITS FALSE NEIGHBOUR: 'it returns false'. Refute it at one input. -/
def fnWithoutPlacesWrong : ChangeSpec := { name := "fnWithoutPlaces", fn := fun _ => fun
  | [d1, d2] => { results := [.lit (.bool false)], args := [d1, d2] }
  | _ => none }
def FnWithoutPlacesWrongFalsely : Prop := fnWithoutPlacesRow.holds Try.pinned (OpenSpec.ofChange fnWithoutPlacesWrong)

/-- 'laws.FnSortedness': WHATEVER THE INPUT: true; the input reads as it did. -/
def fnSortednessSpec : ChangeSpec := { name := "fnSortedness", fn := fun _ => fun
  | [d1, d2] => { results := [.lit (.bool true)], args := [d1, d2] }
  | _ => none }
def fnSortednessRow : OpenClaim := { program := "ytpncgdecfhfjmaa", sum := "5a261b7889551ccd8f735ffaed1cec01a162b235212e2ea7e4ce5a57f81161eb", func := "pub-sheafwork/laws.FnSortedness", spec := "fnSortedness", unfollowed := true, recurses := true, apart := false }
def FnSortednessSaid : Prop := fnSortednessRow.holds Try.pinned (OpenSpec.ofChange fnSortednessSpec)

/-- ITS FALSE NEIGHBOUR: 'it returns false'. Refute it at one input. -/
def fnSortednessWrong : ChangeSpec := { name := "fnSortedness", fn := fun _ => fun
  | [d1, d2] => { results := [.lit (.bool false)], args := [d1, d2] }
  | _ => none }
def FnSortednessWrongFalsely : Prop := fnSortednessRow.holds Try.pinned (OpenSpec.ofChange fnSortednessWrong)

/- THE SECOND FORM. 'bulk': how many values and letters a reading holds, each counted each time it is reached (what is shared counts as often as it is met; a slice's spare places count too). A statement '..UptoSaid' is the law's where the arguments, and the package variables that the reading takes, are together of bulk at most 1048576: NARROWER than '..Said'. Prove '..Said' where nothing that the law and all that it calls make is longer than what came in: it says more and counts as full. Else prove '..UptoSaid'. A law counts once. -/
mutual
def uptoBulk {H : Type} : DataW H → Nat
  | .lit (.string bytes) => bytes.length + 1
  | .lit _ => 1
  | .nil => 1
  | .ptr d => uptoBulk d + 1
  | .slice elems spare => uptoBulkAll elems + uptoBulkAll spare + 1
  | .agg parts => uptoBulkAll parts + 1
  | .iface _ d => uptoBulk d + 1
  | .map entries => uptoBulkEntries entries + 1
  | .held _ => 1
def uptoBulkAll {H : Type} : List (DataW H) → Nat
  | [] => 0
  | d :: r => uptoBulk d + uptoBulkAll r
def uptoBulkEntries {H : Type} : List (Lit × DataW H) → Nat
  | [] => 0
  | x :: r => uptoBulkEntry x + uptoBulkEntries r
def uptoBulkEntry {H : Type} : Lit × DataW H → Nat
  | (.string bytes, d) => bytes.length + uptoBulk d + 1
  | (_, d) => uptoBulk d + 1
 end
def uptoSmall : (H : Type) → List (DataW H) → Bool := fun _ ds => decide (uptoBulkAll ds ≤ 1048576)
def OpenSpec.upto (s : _root_.Go.ChangeSpec) : _root_.Go.OpenSpec := { _root_.Go.OpenSpec.ofChange s with cond := some uptoSmall }

/-- 'laws.FnGroupsBack', WHERE WHAT IT READS IS OF BULK AT MOST 1048576: true; the input reads as it did. -/
def fnGroupsBackUptoRow : OpenClaim := { program := "ytpncgdecfhfjmaa", sum := "5a261b7889551ccd8f735ffaed1cec01a162b235212e2ea7e4ce5a57f81161eb", func := "pub-sheafwork/laws.FnGroupsBack", spec := "fnGroupsBack", inPlace := ["internal/reflectlite.ValueOf", "internal/reflectlite.Swapper", "(internal/reflectlite.Value).Len"], unfollowed := true, recurses := true, apart := false, narrowed := true }
def FnGroupsBackUptoSaid : Prop := fnGroupsBackUptoRow.holds Try.pinned (OpenSpec.upto fnGroupsBackSpec)

/-- 'laws.FnGroupsMapped', WHERE WHAT IT READS IS OF BULK AT MOST 1048576: true; the input reads as it did. -/
def fnGroupsMappedUptoRow : OpenClaim := { program := "ytpncgdecfhfjmaa", sum := "5a261b7889551ccd8f735ffaed1cec01a162b235212e2ea7e4ce5a57f81161eb", func := "pub-sheafwork/laws.FnGroupsMapped", spec := "fnGroupsMapped", inPlace := ["internal/reflectlite.ValueOf", "internal/reflectlite.Swapper", "(internal/reflectlite.Value).Len"], unfollowed := true, recurses := true, apart := false, narrowed := true }
def FnGroupsMappedUptoSaid : Prop := fnGroupsMappedUptoRow.holds Try.pinned (OpenSpec.upto fnGroupsMappedSpec)

/-- 'laws.FnGroups', WHERE WHAT IT READS IS OF BULK AT MOST 1048576: true; the input reads as it did. -/
def fnGroupsUptoRow : OpenClaim := { program := "ytpncgdecfhfjmaa", sum := "5a261b7889551ccd8f735ffaed1cec01a162b235212e2ea7e4ce5a57f81161eb", func := "pub-sheafwork/laws.FnGroups", spec := "fnGroups", inPlace := ["internal/reflectlite.ValueOf", "internal/reflectlite.Swapper", "(internal/reflectlite.Value).Len"], unfollowed := true, recurses := true, apart := false, narrowed := true }
def FnGroupsUptoSaid : Prop := fnGroupsUptoRow.holds Try.pinned (OpenSpec.upto fnGroupsSpec)

/-- 'laws.FnWithoutPlaces', WHERE WHAT IT READS IS OF BULK AT MOST 1048576: true; the input reads as it did. -/
def fnWithoutPlacesUptoRow : OpenClaim := { program := "ytpncgdecfhfjmaa", sum := "5a261b7889551ccd8f735ffaed1cec01a162b235212e2ea7e4ce5a57f81161eb", func := "pub-sheafwork/laws.FnWithoutPlaces", spec := "fnWithoutPlaces", unfollowed := true, recurses := true, apart := false, narrowed := true }
def FnWithoutPlacesUptoSaid : Prop := fnWithoutPlacesUptoRow.holds Try.pinned (OpenSpec.upto fnWithoutPlacesSpec)

/-- 'laws.FnSortedness', WHERE WHAT IT READS IS OF BULK AT MOST 1048576: true; the input reads as it did. -/
def fnSortednessUptoRow : OpenClaim := { program := "ytpncgdecfhfjmaa", sum := "5a261b7889551ccd8f735ffaed1cec01a162b235212e2ea7e4ce5a57f81161eb", func := "pub-sheafwork/laws.FnSortedness", spec := "fnSortedness", unfollowed := true, recurses := true, apart := false, narrowed := true }
def FnSortednessUptoSaid : Prop := fnSortednessUptoRow.holds Try.pinned (OpenSpec.upto fnSortednessSpec)

end Rows
end Go.Proofs.Ytpncgdecfhfjmaa
