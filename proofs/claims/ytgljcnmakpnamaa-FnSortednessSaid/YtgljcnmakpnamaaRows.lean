/-
  No cell of these rows narrows 'for every input' (looked for: loops, veiled, ifaces, maps, wideKeys, modest, calm, conditions, laid).
  DERIVED. THE GIVEN ROWS OF THIS SEAT. 11 by the template 'for every input the law returns true; each argument reads behind the call as it read before'; 0 by the template 'total and deterministic' (their statements: YtgljcnmakpnamaaTotals.lean).
  GIVEN WITH THE SEED: the statements are not yours to turn. If you find one false, say at which input.
  Laid BY PROGRAM, IN A SANDBOX (cutbox-rows.mjs): the forced cells as the released guide's own fill.sh prints them over the translation 45958ff0c829de46… (all of the seat's roots in one cut). By AI agents, Wed Nov 11 2026. No macro, syntax, notation, axiom, sorry.
-/
import Derived.Test.YtgljcnmakpnamaaChecked
import GoSem.Claim
import GoSem.ClaimJoined
import GoSem.ClaimMapViews
import Derived.JoinedTies
import Derived.KernelRfl
namespace Go.Proofs.Ytgljcnmakpnamaa
/- THE CELL 'sum', in the pinned program and in every row, IS THE sha256 OF THE DUMP (.gsa) THAT YtgljcnmakpnamaaProg.lean LOADS. Nothing in Lean hashes anything: it is a label: what it is worth is what the hold of that sum in a sandbox is worth. -/
noncomputable def Try.pinned : Pinned := { name := "ytgljcnmakpnamaa", sum := "45958ff0c829de46cc6b269c3db6e24391f62d01cdb3245b444bc6fb98dba050", checked := Try.checked }
namespace Rows
def none {H : Type} : Left H := { results := [], args := [] }

/-- 'laws.FnExtremes': WHATEVER THE INPUT: true; the input reads as it did. -/
def fnExtremesSpec : ChangeSpec := { name := "fnExtremes", fn := fun _ => fun
  | [d1, d2] => { results := [.lit (.bool true)], args := [d1, d2] }
  | _ => none }
def fnExtremesRow : OpenClaim := { program := "ytgljcnmakpnamaa", sum := "45958ff0c829de46cc6b269c3db6e24391f62d01cdb3245b444bc6fb98dba050", func := "pub-sheafwork/laws.FnExtremes", spec := "fnExtremes", unfollowed := true, recurses := true, apart := false }
def FnExtremesSaid : Prop := fnExtremesRow.holds Try.pinned (OpenSpec.ofChange fnExtremesSpec)

/-- ITS FALSE NEIGHBOUR: 'it returns false'. Refute it at one input. -/
def fnExtremesWrong : ChangeSpec := { name := "fnExtremes", fn := fun _ => fun
  | [d1, d2] => { results := [.lit (.bool false)], args := [d1, d2] }
  | _ => none }
def FnExtremesWrongFalsely : Prop := fnExtremesRow.holds Try.pinned (OpenSpec.ofChange fnExtremesWrong)

/-- 'laws.FnFound': WHATEVER THE INPUT: true; the input reads as it did. -/
def fnFoundSpec : ChangeSpec := { name := "fnFound", fn := fun _ => fun
  | [d1, d2] => { results := [.lit (.bool true)], args := [d1, d2] }
  | _ => none }
def fnFoundRow : OpenClaim := { program := "ytgljcnmakpnamaa", sum := "45958ff0c829de46cc6b269c3db6e24391f62d01cdb3245b444bc6fb98dba050", func := "pub-sheafwork/laws.FnFound", spec := "fnFound", unfollowed := true, recurses := true, apart := false }
def FnFoundSaid : Prop := fnFoundRow.holds Try.pinned (OpenSpec.ofChange fnFoundSpec)

/-- ITS FALSE NEIGHBOUR: 'it returns false'. Refute it at one input. -/
def fnFoundWrong : ChangeSpec := { name := "fnFound", fn := fun _ => fun
  | [d1, d2] => { results := [.lit (.bool false)], args := [d1, d2] }
  | _ => none }
def FnFoundWrongFalsely : Prop := fnFoundRow.holds Try.pinned (OpenSpec.ofChange fnFoundWrong)

/-- 'laws.FnPlaces': WHATEVER THE INPUT: true; the input reads as it did. -/
def fnPlacesSpec : ChangeSpec := { name := "fnPlaces", fn := fun _ => fun
  | [d1, d2] => { results := [.lit (.bool true)], args := [d1, d2] }
  | _ => none }
def fnPlacesRow : OpenClaim := { program := "ytgljcnmakpnamaa", sum := "45958ff0c829de46cc6b269c3db6e24391f62d01cdb3245b444bc6fb98dba050", func := "pub-sheafwork/laws.FnPlaces", spec := "fnPlaces", unfollowed := true, recurses := true, apart := false }
def FnPlacesSaid : Prop := fnPlacesRow.holds Try.pinned (OpenSpec.ofChange fnPlacesSpec)

/-- ITS FALSE NEIGHBOUR: 'it returns false'. Refute it at one input. -/
def fnPlacesWrong : ChangeSpec := { name := "fnPlaces", fn := fun _ => fun
  | [d1, d2] => { results := [.lit (.bool false)], args := [d1, d2] }
  | _ => none }
def FnPlacesWrongFalsely : Prop := fnPlacesRow.holds Try.pinned (OpenSpec.ofChange fnPlacesWrong)

/-- 'laws.FnSortedness': WHATEVER THE INPUT: true; the input reads as it did. -/
def fnSortednessSpec : ChangeSpec := { name := "fnSortedness", fn := fun _ => fun
  | [d1, d2] => { results := [.lit (.bool true)], args := [d1, d2] }
  | _ => none }
def fnSortednessRow : OpenClaim := { program := "ytgljcnmakpnamaa", sum := "45958ff0c829de46cc6b269c3db6e24391f62d01cdb3245b444bc6fb98dba050", func := "pub-sheafwork/laws.FnSortedness", spec := "fnSortedness", unfollowed := true, recurses := true, apart := false }
def FnSortednessSaid : Prop := fnSortednessRow.holds Try.pinned (OpenSpec.ofChange fnSortednessSpec)

/-- ITS FALSE NEIGHBOUR: 'it returns false'. Refute it at one input. -/
def fnSortednessWrong : ChangeSpec := { name := "fnSortedness", fn := fun _ => fun
  | [d1, d2] => { results := [.lit (.bool false)], args := [d1, d2] }
  | _ => none }
def FnSortednessWrongFalsely : Prop := fnSortednessRow.holds Try.pinned (OpenSpec.ofChange fnSortednessWrong)

/-- 'laws.FnWithoutPlaces': WHATEVER THE INPUT: true; the input reads as it did. -/
def fnWithoutPlacesSpec : ChangeSpec := { name := "fnWithoutPlaces", fn := fun _ => fun
  | [d1, d2] => { results := [.lit (.bool true)], args := [d1, d2] }
  | _ => none }
def fnWithoutPlacesRow : OpenClaim := { program := "ytgljcnmakpnamaa", sum := "45958ff0c829de46cc6b269c3db6e24391f62d01cdb3245b444bc6fb98dba050", func := "pub-sheafwork/laws.FnWithoutPlaces", spec := "fnWithoutPlaces", unfollowed := true, recurses := true, apart := false }
def FnWithoutPlacesSaid : Prop := fnWithoutPlacesRow.holds Try.pinned (OpenSpec.ofChange fnWithoutPlacesSpec)

/-- ITS FALSE NEIGHBOUR: 'it returns false'. Refute it at one input. -/
def fnWithoutPlacesWrong : ChangeSpec := { name := "fnWithoutPlaces", fn := fun _ => fun
  | [d1, d2] => { results := [.lit (.bool false)], args := [d1, d2] }
  | _ => none }
def FnWithoutPlacesWrongFalsely : Prop := fnWithoutPlacesRow.holds Try.pinned (OpenSpec.ofChange fnWithoutPlacesWrong)

/-- 'laws.FnZipped': WHATEVER THE INPUT: true; the input reads as it did. -/
def fnZippedSpec : ChangeSpec := { name := "fnZipped", fn := fun _ => fun
  | [d1, d2, d3, d4] => { results := [.lit (.bool true)], args := [d1, d2, d3, d4] }
  | _ => none }
def fnZippedRow : OpenClaim := { program := "ytgljcnmakpnamaa", sum := "45958ff0c829de46cc6b269c3db6e24391f62d01cdb3245b444bc6fb98dba050", func := "pub-sheafwork/laws.FnZipped", spec := "fnZipped", unfollowed := true, recurses := true, apart := false }
def FnZippedSaid : Prop := fnZippedRow.holds Try.pinned (OpenSpec.ofChange fnZippedSpec)

/-- ITS FALSE NEIGHBOUR: 'it returns false'. Refute it at one input. -/
def fnZippedWrong : ChangeSpec := { name := "fnZipped", fn := fun _ => fun
  | [d1, d2, d3, d4] => { results := [.lit (.bool false)], args := [d1, d2, d3, d4] }
  | _ => none }
def FnZippedWrongFalsely : Prop := fnZippedRow.holds Try.pinned (OpenSpec.ofChange fnZippedWrong)

/-- 'laws.FnUniquesBy': WHATEVER THE INPUT: true; the input reads as it did. -/
def fnUniquesBySpec : ChangeSpec := { name := "fnUniquesBy", fn := fun _ => fun
  | [d1, d2] => { results := [.lit (.bool true)], args := [d1, d2] }
  | _ => none }
def fnUniquesByRow : OpenClaim := { program := "ytgljcnmakpnamaa", sum := "45958ff0c829de46cc6b269c3db6e24391f62d01cdb3245b444bc6fb98dba050", func := "pub-sheafwork/laws.FnUniquesBy", spec := "fnUniquesBy", inPlace := ["internal/reflectlite.ValueOf", "internal/reflectlite.Swapper", "(internal/reflectlite.Value).Len"], unfollowed := true, recurses := true, apart := false }
def FnUniquesBySaid : Prop := fnUniquesByRow.holds Try.pinned (OpenSpec.ofChange fnUniquesBySpec)

/-- ITS FALSE NEIGHBOUR: 'it returns false'. Refute it at one input. -/
def fnUniquesByWrong : ChangeSpec := { name := "fnUniquesBy", fn := fun _ => fun
  | [d1, d2] => { results := [.lit (.bool false)], args := [d1, d2] }
  | _ => none }
def FnUniquesByWrongFalsely : Prop := fnUniquesByRow.holds Try.pinned (OpenSpec.ofChange fnUniquesByWrong)

/-- 'laws.FnGroupsMapped': WHATEVER THE INPUT: true; the input reads as it did. -/
def fnGroupsMappedSpec : ChangeSpec := { name := "fnGroupsMapped", fn := fun _ => fun
  | [d1, d2, d3] => { results := [.lit (.bool true)], args := [d1, d2, d3] }
  | _ => none }
def fnGroupsMappedRow : OpenClaim := { program := "ytgljcnmakpnamaa", sum := "45958ff0c829de46cc6b269c3db6e24391f62d01cdb3245b444bc6fb98dba050", func := "pub-sheafwork/laws.FnGroupsMapped", spec := "fnGroupsMapped", inPlace := ["internal/reflectlite.ValueOf", "internal/reflectlite.Swapper", "(internal/reflectlite.Value).Len"], unfollowed := true, recurses := true, apart := false }
def FnGroupsMappedSaid : Prop := fnGroupsMappedRow.holds Try.pinned (OpenSpec.ofChange fnGroupsMappedSpec)

/-- ITS FALSE NEIGHBOUR: 'it returns false'. Refute it at one input. -/
def fnGroupsMappedWrong : ChangeSpec := { name := "fnGroupsMapped", fn := fun _ => fun
  | [d1, d2, d3] => { results := [.lit (.bool false)], args := [d1, d2, d3] }
  | _ => none }
def FnGroupsMappedWrongFalsely : Prop := fnGroupsMappedRow.holds Try.pinned (OpenSpec.ofChange fnGroupsMappedWrong)

/-- 'laws.FnGroups': WHATEVER THE INPUT: true; the input reads as it did. -/
def fnGroupsSpec : ChangeSpec := { name := "fnGroups", fn := fun _ => fun
  | [d1, d2] => { results := [.lit (.bool true)], args := [d1, d2] }
  | _ => none }
def fnGroupsRow : OpenClaim := { program := "ytgljcnmakpnamaa", sum := "45958ff0c829de46cc6b269c3db6e24391f62d01cdb3245b444bc6fb98dba050", func := "pub-sheafwork/laws.FnGroups", spec := "fnGroups", inPlace := ["internal/reflectlite.ValueOf", "internal/reflectlite.Swapper", "(internal/reflectlite.Value).Len"], unfollowed := true, recurses := true, apart := false }
def FnGroupsSaid : Prop := fnGroupsRow.holds Try.pinned (OpenSpec.ofChange fnGroupsSpec)

/-- ITS FALSE NEIGHBOUR: 'it returns false'. Refute it at one input. -/
def fnGroupsWrong : ChangeSpec := { name := "fnGroups", fn := fun _ => fun
  | [d1, d2] => { results := [.lit (.bool false)], args := [d1, d2] }
  | _ => none }
def FnGroupsWrongFalsely : Prop := fnGroupsRow.holds Try.pinned (OpenSpec.ofChange fnGroupsWrong)

/-- 'laws.FnMaps': WHATEVER THE INPUT: true; the input reads as it did. -/
def fnMapsSpec : ChangeSpec := { name := "fnMaps", fn := fun _ => fun
  | [d1, d2, d3, d4] => { results := [.lit (.bool true)], args := [d1, d2, d3, d4] }
  | _ => none }
def fnMapsRow : OpenClaim := { program := "ytgljcnmakpnamaa", sum := "45958ff0c829de46cc6b269c3db6e24391f62d01cdb3245b444bc6fb98dba050", func := "pub-sheafwork/laws.FnMaps", spec := "fnMaps", inPlace := ["internal/reflectlite.ValueOf", "internal/reflectlite.Swapper", "(internal/reflectlite.Value).Len"], unfollowed := true, recurses := true, apart := false }
def FnMapsSaid : Prop := fnMapsRow.holds Try.pinned (OpenSpec.ofChange fnMapsSpec)

/-- ITS FALSE NEIGHBOUR: 'it returns false'. Refute it at one input. -/
def fnMapsWrong : ChangeSpec := { name := "fnMaps", fn := fun _ => fun
  | [d1, d2, d3, d4] => { results := [.lit (.bool false)], args := [d1, d2, d3, d4] }
  | _ => none }
def FnMapsWrongFalsely : Prop := fnMapsRow.holds Try.pinned (OpenSpec.ofChange fnMapsWrong)

/-- 'laws.FnGroupsBack': WHATEVER THE INPUT: true; the input reads as it did. -/
def fnGroupsBackSpec : ChangeSpec := { name := "fnGroupsBack", fn := fun _ => fun
  | [d1, d2] => { results := [.lit (.bool true)], args := [d1, d2] }
  | _ => none }
def fnGroupsBackRow : OpenClaim := { program := "ytgljcnmakpnamaa", sum := "45958ff0c829de46cc6b269c3db6e24391f62d01cdb3245b444bc6fb98dba050", func := "pub-sheafwork/laws.FnGroupsBack", spec := "fnGroupsBack", inPlace := ["internal/reflectlite.ValueOf", "internal/reflectlite.Swapper", "(internal/reflectlite.Value).Len"], unfollowed := true, recurses := true, apart := false }
def FnGroupsBackSaid : Prop := fnGroupsBackRow.holds Try.pinned (OpenSpec.ofChange fnGroupsBackSpec)

/-- ITS FALSE NEIGHBOUR: 'it returns false'. Refute it at one input. -/
def fnGroupsBackWrong : ChangeSpec := { name := "fnGroupsBack", fn := fun _ => fun
  | [d1, d2] => { results := [.lit (.bool false)], args := [d1, d2] }
  | _ => none }
def FnGroupsBackWrongFalsely : Prop := fnGroupsBackRow.holds Try.pinned (OpenSpec.ofChange fnGroupsBackWrong)

/- THE SECOND FORM. 'bulk': how many values and letters a reading holds, each counted each time it is reached (what is shared counts as often as it is met; a slice's spare places count too). A statement '..UptoSaid' is the law's where the arguments, and the package variables that the reading takes, are together of bulk at most 1048576: NARROWER than '..Said'. Prove '..Said' where nothing that the law and all that it calls make is longer than what came in: it says more and counts as full. Else prove '..UptoSaid'. A law counts once. -/
mutual
def uptoBulk {H : Type} : DataW H → Nat
  | .lit (.string bytes) => bytes.length + 1
  | .lit _ => 1
  | .nil => 1
  | .ptr d => uptoBulk d + 1
  | .slice elems spare => uptoBulkAll elems + uptoBulkAll spare + 1
  | .agg parts => uptoBulkAll parts + 1
  | .iface _ d => uptoBulk d + 1
  | .map entries => uptoBulkEntries entries + 1
  | .held _ => 1
def uptoBulkAll {H : Type} : List (DataW H) → Nat
  | [] => 0
  | d :: r => uptoBulk d + uptoBulkAll r
def uptoBulkEntries {H : Type} : List (Lit × DataW H) → Nat
  | [] => 0
  | x :: r => uptoBulkEntry x + uptoBulkEntries r
def uptoBulkEntry {H : Type} : Lit × DataW H → Nat
  | (.string bytes, d) => bytes.length + uptoBulk d + 1
  | (_, d) => uptoBulk d + 1
 end
def uptoSmall : (H : Type) → List (DataW H) → Bool := fun _ ds => decide (uptoBulkAll ds ≤ 1048576)
def OpenSpec.upto (s : _root_.Go.ChangeSpec) : _root_.Go.OpenSpec := { _root_.Go.OpenSpec.ofChange s with cond := some uptoSmall }

/-- 'laws.FnExtremes', WHERE WHAT IT READS IS OF BULK AT MOST 1048576: true; the input reads as it did. -/
def fnExtremesUptoRow : OpenClaim := { program := "ytgljcnmakpnamaa", sum := "45958ff0c829de46cc6b269c3db6e24391f62d01cdb3245b444bc6fb98dba050", func := "pub-sheafwork/laws.FnExtremes", spec := "fnExtremes", unfollowed := true, recurses := true, apart := false, narrowed := true }
def FnExtremesUptoSaid : Prop := fnExtremesUptoRow.holds Try.pinned (OpenSpec.upto fnExtremesSpec)

/-- 'laws.FnFound', WHERE WHAT IT READS IS OF BULK AT MOST 1048576: true; the input reads as it did. -/
def fnFoundUptoRow : OpenClaim := { program := "ytgljcnmakpnamaa", sum := "45958ff0c829de46cc6b269c3db6e24391f62d01cdb3245b444bc6fb98dba050", func := "pub-sheafwork/laws.FnFound", spec := "fnFound", unfollowed := true, recurses := true, apart := false, narrowed := true }
def FnFoundUptoSaid : Prop := fnFoundUptoRow.holds Try.pinned (OpenSpec.upto fnFoundSpec)

/-- 'laws.FnPlaces', WHERE WHAT IT READS IS OF BULK AT MOST 1048576: true; the input reads as it did. -/
def fnPlacesUptoRow : OpenClaim := { program := "ytgljcnmakpnamaa", sum := "45958ff0c829de46cc6b269c3db6e24391f62d01cdb3245b444bc6fb98dba050", func := "pub-sheafwork/laws.FnPlaces", spec := "fnPlaces", unfollowed := true, recurses := true, apart := false, narrowed := true }
def FnPlacesUptoSaid : Prop := fnPlacesUptoRow.holds Try.pinned (OpenSpec.upto fnPlacesSpec)

/-- 'laws.FnSortedness', WHERE WHAT IT READS IS OF BULK AT MOST 1048576: true; the input reads as it did. -/
def fnSortednessUptoRow : OpenClaim := { program := "ytgljcnmakpnamaa", sum := "45958ff0c829de46cc6b269c3db6e24391f62d01cdb3245b444bc6fb98dba050", func := "pub-sheafwork/laws.FnSortedness", spec := "fnSortedness", unfollowed := true, recurses := true, apart := false, narrowed := true }
def FnSortednessUptoSaid : Prop := fnSortednessUptoRow.holds Try.pinned (OpenSpec.upto fnSortednessSpec)

/-- 'laws.FnWithoutPlaces', WHERE WHAT IT READS IS OF BULK AT MOST 1048576: true; the input reads as it did. -/
def fnWithoutPlacesUptoRow : OpenClaim := { program := "ytgljcnmakpnamaa", sum := "45958ff0c829de46cc6b269c3db6e24391f62d01cdb3245b444bc6fb98dba050", func := "pub-sheafwork/laws.FnWithoutPlaces", spec := "fnWithoutPlaces", unfollowed := true, recurses := true, apart := false, narrowed := true }
def FnWithoutPlacesUptoSaid : Prop := fnWithoutPlacesUptoRow.holds Try.pinned (OpenSpec.upto fnWithoutPlacesSpec)

/-- 'laws.FnZipped', WHERE WHAT IT READS IS OF BULK AT MOST 1048576: true; the input reads as it did. -/
def fnZippedUptoRow : OpenClaim := { program := "ytgljcnmakpnamaa", sum := "45958ff0c829de46cc6b269c3db6e24391f62d01cdb3245b444bc6fb98dba050", func := "pub-sheafwork/laws.FnZipped", spec := "fnZipped", unfollowed := true, recurses := true, apart := false, narrowed := true }
def FnZippedUptoSaid : Prop := fnZippedUptoRow.holds Try.pinned (OpenSpec.upto fnZippedSpec)

/-- 'laws.FnUniquesBy', WHERE WHAT IT READS IS OF BULK AT MOST 1048576: true; the input reads as it did. -/
def fnUniquesByUptoRow : OpenClaim := { program := "ytgljcnmakpnamaa", sum := "45958ff0c829de46cc6b269c3db6e24391f62d01cdb3245b444bc6fb98dba050", func := "pub-sheafwork/laws.FnUniquesBy", spec := "fnUniquesBy", inPlace := ["internal/reflectlite.ValueOf", "internal/reflectlite.Swapper", "(internal/reflectlite.Value).Len"], unfollowed := true, recurses := true, apart := false, narrowed := true }
def FnUniquesByUptoSaid : Prop := fnUniquesByUptoRow.holds Try.pinned (OpenSpec.upto fnUniquesBySpec)

/-- 'laws.FnGroupsMapped', WHERE WHAT IT READS IS OF BULK AT MOST 1048576: true; the input reads as it did. -/
def fnGroupsMappedUptoRow : OpenClaim := { program := "ytgljcnmakpnamaa", sum := "45958ff0c829de46cc6b269c3db6e24391f62d01cdb3245b444bc6fb98dba050", func := "pub-sheafwork/laws.FnGroupsMapped", spec := "fnGroupsMapped", inPlace := ["internal/reflectlite.ValueOf", "internal/reflectlite.Swapper", "(internal/reflectlite.Value).Len"], unfollowed := true, recurses := true, apart := false, narrowed := true }
def FnGroupsMappedUptoSaid : Prop := fnGroupsMappedUptoRow.holds Try.pinned (OpenSpec.upto fnGroupsMappedSpec)

/-- 'laws.FnGroups', WHERE WHAT IT READS IS OF BULK AT MOST 1048576: true; the input reads as it did. -/
def fnGroupsUptoRow : OpenClaim := { program := "ytgljcnmakpnamaa", sum := "45958ff0c829de46cc6b269c3db6e24391f62d01cdb3245b444bc6fb98dba050", func := "pub-sheafwork/laws.FnGroups", spec := "fnGroups", inPlace := ["internal/reflectlite.ValueOf", "internal/reflectlite.Swapper", "(internal/reflectlite.Value).Len"], unfollowed := true, recurses := true, apart := false, narrowed := true }
def FnGroupsUptoSaid : Prop := fnGroupsUptoRow.holds Try.pinned (OpenSpec.upto fnGroupsSpec)

/-- 'laws.FnMaps', WHERE WHAT IT READS IS OF BULK AT MOST 1048576: true; the input reads as it did. -/
def fnMapsUptoRow : OpenClaim := { program := "ytgljcnmakpnamaa", sum := "45958ff0c829de46cc6b269c3db6e24391f62d01cdb3245b444bc6fb98dba050", func := "pub-sheafwork/laws.FnMaps", spec := "fnMaps", inPlace := ["internal/reflectlite.ValueOf", "internal/reflectlite.Swapper", "(internal/reflectlite.Value).Len"], unfollowed := true, recurses := true, apart := false, narrowed := true }
def FnMapsUptoSaid : Prop := fnMapsUptoRow.holds Try.pinned (OpenSpec.upto fnMapsSpec)

/-- 'laws.FnGroupsBack', WHERE WHAT IT READS IS OF BULK AT MOST 1048576: true; the input reads as it did. -/
def fnGroupsBackUptoRow : OpenClaim := { program := "ytgljcnmakpnamaa", sum := "45958ff0c829de46cc6b269c3db6e24391f62d01cdb3245b444bc6fb98dba050", func := "pub-sheafwork/laws.FnGroupsBack", spec := "fnGroupsBack", inPlace := ["internal/reflectlite.ValueOf", "internal/reflectlite.Swapper", "(internal/reflectlite.Value).Len"], unfollowed := true, recurses := true, apart := false, narrowed := true }
def FnGroupsBackUptoSaid : Prop := fnGroupsBackUptoRow.holds Try.pinned (OpenSpec.upto fnGroupsBackSpec)

end Rows
end Go.Proofs.Ytgljcnmakpnamaa
