/-
  No cell of these rows narrows 'for every input' (looked for: loops, veiled, ifaces, maps, wideKeys, modest, calm, conditions, laid).
  DERIVED. THE GIVEN ROWS OF THIS SEAT. 8 by the template 'for every input the law returns true; each argument reads behind the call as it read before'; 0 by the template 'total and deterministic' (their statements: YtahbobhbookehaaTotals.lean).
  GIVEN WITH THE SEED: the statements are not yours to turn. If you find one false, say at which input.
  Laid BY PROGRAM, IN A SANDBOX (cutbox-rows.mjs): the forced cells as the released guide's own fill.sh prints them over the translation 7d1135c7442eb9fd… (all of the seat's roots in one cut). By AI agents, Wed Nov 11 2026. No macro, syntax, notation, axiom, sorry.
-/
import Derived.Test.YtahbobhbookehaaChecked
import GoSem.Claim
import GoSem.ClaimJoined
import GoSem.ClaimMapViews
import Derived.JoinedTies
import Derived.KernelRfl
namespace Go.Proofs.Ytahbobhbookehaa
/- THE CELL 'sum', in the pinned program and in every row, IS THE sha256 OF THE DUMP (.gsa) THAT YtahbobhbookehaaProg.lean LOADS. Nothing in Lean hashes anything: it is a label: what it is worth is what the hold of that sum in a sandbox is worth. -/
noncomputable def Try.pinned : Pinned := { name := "ytahbobhbookehaa", sum := "7d1135c7442eb9fd8c1f896a12be8c1345e3ad862229a9e36dbb4abadd878889", checked := Try.checked }
namespace Rows
def none {H : Type} : Left H := { results := [], args := [] }

/-- 'laws.FnUniquesBy': WHATEVER THE INPUT: true; the input reads as it did. -/
def fnUniquesBySpec : ChangeSpec := { name := "fnUniquesBy", fn := fun _ => fun
  | [d1, d2] => { results := [.lit (.bool true)], args := [d1, d2] }
  | _ => none }
def fnUniquesByRow : OpenClaim := { program := "ytahbobhbookehaa", sum := "7d1135c7442eb9fd8c1f896a12be8c1345e3ad862229a9e36dbb4abadd878889", func := "pub-sheafwork/laws.FnUniquesBy", spec := "fnUniquesBy", inPlace := ["internal/reflectlite.ValueOf", "internal/reflectlite.Swapper", "(internal/reflectlite.Value).Len"], unfollowed := true, recurses := true, apart := false }
def FnUniquesBySaid : Prop := fnUniquesByRow.holds Try.pinned (OpenSpec.ofChange fnUniquesBySpec)

/-- ITS FALSE NEIGHBOUR: 'it returns false'. Refute it at one input. -/
def fnUniquesByWrong : ChangeSpec := { name := "fnUniquesBy", fn := fun _ => fun
  | [d1, d2] => { results := [.lit (.bool false)], args := [d1, d2] }
  | _ => none }
def FnUniquesByWrongFalsely : Prop := fnUniquesByRow.holds Try.pinned (OpenSpec.ofChange fnUniquesByWrong)

/-- 'laws.FnGroups': WHATEVER THE INPUT: true; the input reads as it did. -/
def fnGroupsSpec : ChangeSpec := { name := "fnGroups", fn := fun _ => fun
  | [d1, d2] => { results := [.lit (.bool true)], args := [d1, d2] }
  | _ => none }
def fnGroupsRow : OpenClaim := { program := "ytahbobhbookehaa", sum := "7d1135c7442eb9fd8c1f896a12be8c1345e3ad862229a9e36dbb4abadd878889", func := "pub-sheafwork/laws.FnGroups", spec := "fnGroups", inPlace := ["internal/reflectlite.ValueOf", "internal/reflectlite.Swapper", "(internal/reflectlite.Value).Len"], unfollowed := true, recurses := true, apart := false }
def FnGroupsSaid : Prop := fnGroupsRow.holds Try.pinned (OpenSpec.ofChange fnGroupsSpec)

/-- ITS FALSE NEIGHBOUR: 'it returns false'. Refute it at one input. -/
def fnGroupsWrong : ChangeSpec := { name := "fnGroups", fn := fun _ => fun
  | [d1, d2] => { results := [.lit (.bool false)], args := [d1, d2] }
  | _ => none }
def FnGroupsWrongFalsely : Prop := fnGroupsRow.holds Try.pinned (OpenSpec.ofChange fnGroupsWrong)

/-- 'laws.FnGroupsMapped': WHATEVER THE INPUT: true; the input reads as it did. -/
def fnGroupsMappedSpec : ChangeSpec := { name := "fnGroupsMapped", fn := fun _ => fun
  | [d1, d2, d3] => { results := [.lit (.bool true)], args := [d1, d2, d3] }
  | _ => none }
def fnGroupsMappedRow : OpenClaim := { program := "ytahbobhbookehaa", sum := "7d1135c7442eb9fd8c1f896a12be8c1345e3ad862229a9e36dbb4abadd878889", func := "pub-sheafwork/laws.FnGroupsMapped", spec := "fnGroupsMapped", inPlace := ["internal/reflectlite.ValueOf", "internal/reflectlite.Swapper", "(internal/reflectlite.Value).Len"], unfollowed := true, recurses := true, apart := false }
def FnGroupsMappedSaid : Prop := fnGroupsMappedRow.holds Try.pinned (OpenSpec.ofChange fnGroupsMappedSpec)

/-- ITS FALSE NEIGHBOUR: 'it returns false'. Refute it at one input. -/
def fnGroupsMappedWrong : ChangeSpec := { name := "fnGroupsMapped", fn := fun _ => fun
  | [d1, d2, d3] => { results := [.lit (.bool false)], args := [d1, d2, d3] }
  | _ => none }
def FnGroupsMappedWrongFalsely : Prop := fnGroupsMappedRow.holds Try.pinned (OpenSpec.ofChange fnGroupsMappedWrong)

/-- 'laws.FnMaps': WHATEVER THE INPUT: true; the input reads as it did. -/
def fnMapsSpec : ChangeSpec := { name := "fnMaps", fn := fun _ => fun
  | [d1, d2, d3, d4] => { results := [.lit (.bool true)], args := [d1, d2, d3, d4] }
  | _ => none }
def fnMapsRow : OpenClaim := { program := "ytahbobhbookehaa", sum := "7d1135c7442eb9fd8c1f896a12be8c1345e3ad862229a9e36dbb4abadd878889", func := "pub-sheafwork/laws.FnMaps", spec := "fnMaps", inPlace := ["internal/reflectlite.ValueOf", "internal/reflectlite.Swapper", "(internal/reflectlite.Value).Len"], unfollowed := true, recurses := true, apart := false }
def FnMapsSaid : Prop := fnMapsRow.holds Try.pinned (OpenSpec.ofChange fnMapsSpec)

/-- ITS FALSE NEIGHBOUR: 'it returns false'. Refute it at one input. -/
def fnMapsWrong : ChangeSpec := { name := "fnMaps", fn := fun _ => fun
  | [d1, d2, d3, d4] => { results := [.lit (.bool false)], args := [d1, d2, d3, d4] }
  | _ => none }
def FnMapsWrongFalsely : Prop := fnMapsRow.holds Try.pinned (OpenSpec.ofChange fnMapsWrong)

/-- 'laws.FnGroupsBack': WHATEVER THE INPUT: true; the input reads as it did. -/
def fnGroupsBackSpec : ChangeSpec := { name := "fnGroupsBack", fn := fun _ => fun
  | [d1, d2] => { results := [.lit (.bool true)], args := [d1, d2] }
  | _ => none }
def fnGroupsBackRow : OpenClaim := { program := "ytahbobhbookehaa", sum := "7d1135c7442eb9fd8c1f896a12be8c1345e3ad862229a9e36dbb4abadd878889", func := "pub-sheafwork/laws.FnGroupsBack", spec := "fnGroupsBack", inPlace := ["internal/reflectlite.ValueOf", "internal/reflectlite.Swapper", "(internal/reflectlite.Value).Len"], unfollowed := true, recurses := true, apart := false }
def FnGroupsBackSaid : Prop := fnGroupsBackRow.holds Try.pinned (OpenSpec.ofChange fnGroupsBackSpec)

/-- ITS FALSE NEIGHBOUR: 'it returns false'. Refute it at one input. -/
def fnGroupsBackWrong : ChangeSpec := { name := "fnGroupsBack", fn := fun _ => fun
  | [d1, d2] => { results := [.lit (.bool false)], args := [d1, d2] }
  | _ => none }
def FnGroupsBackWrongFalsely : Prop := fnGroupsBackRow.holds Try.pinned (OpenSpec.ofChange fnGroupsBackWrong)

/-- 'laws.FnAssigned': WHATEVER THE INPUT: true; the input reads as it did. -/
def fnAssignedSpec : ChangeSpec := { name := "fnAssigned", fn := fun _ => fun
  | [d1, d2, d3, d4, d5] => { results := [.lit (.bool true)], args := [d1, d2, d3, d4, d5] }
  | _ => none }
def fnAssignedRow : OpenClaim := { program := "ytahbobhbookehaa", sum := "7d1135c7442eb9fd8c1f896a12be8c1345e3ad862229a9e36dbb4abadd878889", func := "pub-sheafwork/laws.FnAssigned", spec := "fnAssigned", inPlace := ["internal/reflectlite.ValueOf", "internal/reflectlite.Swapper", "(internal/reflectlite.Value).Len"], unfollowed := true, recurses := true, apart := false }
def FnAssignedSaid : Prop := fnAssignedRow.holds Try.pinned (OpenSpec.ofChange fnAssignedSpec)

/-- ITS FALSE NEIGHBOUR: 'it returns false'. Refute it at one input. -/
def fnAssignedWrong : ChangeSpec := { name := "fnAssigned", fn := fun _ => fun
  | [d1, d2, d3, d4, d5] => { results := [.lit (.bool false)], args := [d1, d2, d3, d4, d5] }
  | _ => none }
def FnAssignedWrongFalsely : Prop := fnAssignedRow.holds Try.pinned (OpenSpec.ofChange fnAssignedWrong)

/-- 'laws.FnPicked': WHATEVER THE INPUT: true; the input reads as it did. -/
def fnPickedSpec : ChangeSpec := { name := "fnPicked", fn := fun _ => fun
  | [d1, d2, d3] => { results := [.lit (.bool true)], args := [d1, d2, d3] }
  | _ => none }
def fnPickedRow : OpenClaim := { program := "ytahbobhbookehaa", sum := "7d1135c7442eb9fd8c1f896a12be8c1345e3ad862229a9e36dbb4abadd878889", func := "pub-sheafwork/laws.FnPicked", spec := "fnPicked", inPlace := ["internal/reflectlite.ValueOf", "internal/reflectlite.Swapper", "(internal/reflectlite.Value).Len"], unfollowed := true, recurses := true, apart := false }
def FnPickedSaid : Prop := fnPickedRow.holds Try.pinned (OpenSpec.ofChange fnPickedSpec)

/-- ITS FALSE NEIGHBOUR: 'it returns false'. Refute it at one input. -/
def fnPickedWrong : ChangeSpec := { name := "fnPicked", fn := fun _ => fun
  | [d1, d2, d3] => { results := [.lit (.bool false)], args := [d1, d2, d3] }
  | _ => none }
def FnPickedWrongFalsely : Prop := fnPickedRow.holds Try.pinned (OpenSpec.ofChange fnPickedWrong)

/-- 'laws.FnTurnedMaps': WHATEVER THE INPUT: true; the input reads as it did. -/
def fnTurnedMapsSpec : ChangeSpec := { name := "fnTurnedMaps", fn := fun _ => fun
  | [d1, d2] => { results := [.lit (.bool true)], args := [d1, d2] }
  | _ => none }
def fnTurnedMapsRow : OpenClaim := { program := "ytahbobhbookehaa", sum := "7d1135c7442eb9fd8c1f896a12be8c1345e3ad862229a9e36dbb4abadd878889", func := "pub-sheafwork/laws.FnTurnedMaps", spec := "fnTurnedMaps", inPlace := ["internal/reflectlite.ValueOf", "internal/reflectlite.Swapper", "(internal/reflectlite.Value).Len"], unfollowed := true, recurses := true, apart := false }
def FnTurnedMapsSaid : Prop := fnTurnedMapsRow.holds Try.pinned (OpenSpec.ofChange fnTurnedMapsSpec)

/-- ITS FALSE NEIGHBOUR: 'it returns false'. Refute it at one input. -/
def fnTurnedMapsWrong : ChangeSpec := { name := "fnTurnedMaps", fn := fun _ => fun
  | [d1, d2] => { results := [.lit (.bool false)], args := [d1, d2] }
  | _ => none }
def FnTurnedMapsWrongFalsely : Prop := fnTurnedMapsRow.holds Try.pinned (OpenSpec.ofChange fnTurnedMapsWrong)

/- THE SECOND FORM. 'bulk': how many values and letters a reading holds, each counted each time it is reached (what is shared counts as often as it is met; a slice's spare places count too). A statement '..UptoSaid' is the law's where the arguments, and the package variables that the reading takes, are together of bulk at most 1048576: NARROWER than '..Said'. Prove '..Said' where nothing that the law and all that it calls make is longer than what came in: it says more and counts as full. Else prove '..UptoSaid'. A law counts once. -/
mutual
def uptoBulk {H : Type} : DataW H → Nat
  | .lit (.string bytes) => bytes.length + 1
  | .lit _ => 1
  | .nil => 1
  | .ptr d => uptoBulk d + 1
  | .slice elems spare => uptoBulkAll elems + uptoBulkAll spare + 1
  | .agg parts => uptoBulkAll parts + 1
  | .iface _ d => uptoBulk d + 1
  | .map entries => uptoBulkEntries entries + 1
  | .held _ => 1
def uptoBulkAll {H : Type} : List (DataW H) → Nat
  | [] => 0
  | d :: r => uptoBulk d + uptoBulkAll r
def uptoBulkEntries {H : Type} : List (Lit × DataW H) → Nat
  | [] => 0
  | x :: r => uptoBulkEntry x + uptoBulkEntries r
def uptoBulkEntry {H : Type} : Lit × DataW H → Nat
  | (.string bytes, d) => bytes.length + uptoBulk d + 1
  | (_, d) => uptoBulk d + 1
 end
def uptoSmall : (H : Type) → List (DataW H) → Bool := fun _ ds => decide (uptoBulkAll ds ≤ 1048576)
def OpenSpec.upto (s : _root_.Go.ChangeSpec) : _root_.Go.OpenSpec := { _root_.Go.OpenSpec.ofChange s with cond := some uptoSmall }

/-- 'laws.FnUniquesBy', WHERE WHAT IT READS IS OF BULK AT MOST 1048576: true; the input reads as it did. -/
def fnUniquesByUptoRow : OpenClaim := { program := "ytahbobhbookehaa", sum := "7d1135c7442eb9fd8c1f896a12be8c1345e3ad862229a9e36dbb4abadd878889", func := "pub-sheafwork/laws.FnUniquesBy", spec := "fnUniquesBy", inPlace := ["internal/reflectlite.ValueOf", "internal/reflectlite.Swapper", "(internal/reflectlite.Value).Len"], unfollowed := true, recurses := true, apart := false, narrowed := true }
def FnUniquesByUptoSaid : Prop := fnUniquesByUptoRow.holds Try.pinned (OpenSpec.upto fnUniquesBySpec)

/-- 'laws.FnGroups', WHERE WHAT IT READS IS OF BULK AT MOST 1048576: true; the input reads as it did. -/
def fnGroupsUptoRow : OpenClaim := { program := "ytahbobhbookehaa", sum := "7d1135c7442eb9fd8c1f896a12be8c1345e3ad862229a9e36dbb4abadd878889", func := "pub-sheafwork/laws.FnGroups", spec := "fnGroups", inPlace := ["internal/reflectlite.ValueOf", "internal/reflectlite.Swapper", "(internal/reflectlite.Value).Len"], unfollowed := true, recurses := true, apart := false, narrowed := true }
def FnGroupsUptoSaid : Prop := fnGroupsUptoRow.holds Try.pinned (OpenSpec.upto fnGroupsSpec)

/-- 'laws.FnGroupsMapped', WHERE WHAT IT READS IS OF BULK AT MOST 1048576: true; the input reads as it did. -/
def fnGroupsMappedUptoRow : OpenClaim := { program := "ytahbobhbookehaa", sum := "7d1135c7442eb9fd8c1f896a12be8c1345e3ad862229a9e36dbb4abadd878889", func := "pub-sheafwork/laws.FnGroupsMapped", spec := "fnGroupsMapped", inPlace := ["internal/reflectlite.ValueOf", "internal/reflectlite.Swapper", "(internal/reflectlite.Value).Len"], unfollowed := true, recurses := true, apart := false, narrowed := true }
def FnGroupsMappedUptoSaid : Prop := fnGroupsMappedUptoRow.holds Try.pinned (OpenSpec.upto fnGroupsMappedSpec)

/-- 'laws.FnMaps', WHERE WHAT IT READS IS OF BULK AT MOST 1048576: true; the input reads as it did. -/
def fnMapsUptoRow : OpenClaim := { program := "ytahbobhbookehaa", sum := "7d1135c7442eb9fd8c1f896a12be8c1345e3ad862229a9e36dbb4abadd878889", func := "pub-sheafwork/laws.FnMaps", spec := "fnMaps", inPlace := ["internal/reflectlite.ValueOf", "internal/reflectlite.Swapper", "(internal/reflectlite.Value).Len"], unfollowed := true, recurses := true, apart := false, narrowed := true }
def FnMapsUptoSaid : Prop := fnMapsUptoRow.holds Try.pinned (OpenSpec.upto fnMapsSpec)

/-- 'laws.FnGroupsBack', WHERE WHAT IT READS IS OF BULK AT MOST 1048576: true; the input reads as it did. -/
def fnGroupsBackUptoRow : OpenClaim := { program := "ytahbobhbookehaa", sum := "7d1135c7442eb9fd8c1f896a12be8c1345e3ad862229a9e36dbb4abadd878889", func := "pub-sheafwork/laws.FnGroupsBack", spec := "fnGroupsBack", inPlace := ["internal/reflectlite.ValueOf", "internal/reflectlite.Swapper", "(internal/reflectlite.Value).Len"], unfollowed := true, recurses := true, apart := false, narrowed := true }
def FnGroupsBackUptoSaid : Prop := fnGroupsBackUptoRow.holds Try.pinned (OpenSpec.upto fnGroupsBackSpec)

/-- 'laws.FnAssigned', WHERE WHAT IT READS IS OF BULK AT MOST 1048576: true; the input reads as it did. -/
def fnAssignedUptoRow : OpenClaim := { program := "ytahbobhbookehaa", sum := "7d1135c7442eb9fd8c1f896a12be8c1345e3ad862229a9e36dbb4abadd878889", func := "pub-sheafwork/laws.FnAssigned", spec := "fnAssigned", inPlace := ["internal/reflectlite.ValueOf", "internal/reflectlite.Swapper", "(internal/reflectlite.Value).Len"], unfollowed := true, recurses := true, apart := false, narrowed := true }
def FnAssignedUptoSaid : Prop := fnAssignedUptoRow.holds Try.pinned (OpenSpec.upto fnAssignedSpec)

/-- 'laws.FnPicked', WHERE WHAT IT READS IS OF BULK AT MOST 1048576: true; the input reads as it did. -/
def fnPickedUptoRow : OpenClaim := { program := "ytahbobhbookehaa", sum := "7d1135c7442eb9fd8c1f896a12be8c1345e3ad862229a9e36dbb4abadd878889", func := "pub-sheafwork/laws.FnPicked", spec := "fnPicked", inPlace := ["internal/reflectlite.ValueOf", "internal/reflectlite.Swapper", "(internal/reflectlite.Value).Len"], unfollowed := true, recurses := true, apart := false, narrowed := true }
def FnPickedUptoSaid : Prop := fnPickedUptoRow.holds Try.pinned (OpenSpec.upto fnPickedSpec)

/-- 'laws.FnTurnedMaps', WHERE WHAT IT READS IS OF BULK AT MOST 1048576: true; the input reads as it did. -/
def fnTurnedMapsUptoRow : OpenClaim := { program := "ytahbobhbookehaa", sum := "7d1135c7442eb9fd8c1f896a12be8c1345e3ad862229a9e36dbb4abadd878889", func := "pub-sheafwork/laws.FnTurnedMaps", spec := "fnTurnedMaps", inPlace := ["internal/reflectlite.ValueOf", "internal/reflectlite.Swapper", "(internal/reflectlite.Value).Len"], unfollowed := true, recurses := true, apart := false, narrowed := true }
def FnTurnedMapsUptoSaid : Prop := fnTurnedMapsUptoRow.holds Try.pinned (OpenSpec.upto fnTurnedMapsSpec)

end Rows
end Go.Proofs.Ytahbobhbookehaa
