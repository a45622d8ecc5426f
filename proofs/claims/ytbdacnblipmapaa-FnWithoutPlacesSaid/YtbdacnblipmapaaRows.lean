/-
  No cell of these rows narrows 'for every input' (looked for: loops, veiled, ifaces, maps, wideKeys, modest, calm, conditions, laid).
  DERIVED. THE GIVEN ROWS OF THIS SEAT. 8 by the template 'for every input the law returns true; each argument reads behind the call as it read before'; 0 by the template 'total and deterministic' (their statements: YtbdacnblipmapaaTotals.lean).
  GIVEN WITH THE SEED: the statements are not yours to turn. If you find one false, say at which input.
  Laid BY PROGRAM, IN A SANDBOX (cutbox-rows.mjs): the forced cells as the released guide's own fill.sh prints them over the translation 8d015b66ea82955c… (all of the seat's roots in one cut). By AI agents, Wed Nov 11 2026. No macro, syntax, notation, axiom, sorry.
-/
import Derived.Test.YtbdacnblipmapaaChecked
import GoSem.Claim
import GoSem.ClaimJoined
import GoSem.ClaimMapViews
import Derived.JoinedTies
import Derived.KernelRfl
namespace Go.Proofs.Ytbdacnblipmapaa
/- THE CELL 'sum', in the pinned program and in every row, IS THE sha256 OF THE DUMP (.gsa) THAT YtbdacnblipmapaaProg.lean LOADS. Nothing in Lean hashes anything: it is a label: what it is worth is what the hold of that sum in a sandbox is worth. -/
noncomputable def Try.pinned : Pinned := { name := "ytbdacnblipmapaa", sum := "8d015b66ea82955cae414227e5abcfc1d14dc2d12ae15f9fc2d6e02bc39235bd", checked := Try.checked }
namespace Rows
def none {H : Type} : Left H := { results := [], args := [] }

/-- 'laws.FnUnionOrder': WHATEVER THE INPUT: true; the input reads as it did. -/
def fnUnionOrderSpec : ChangeSpec := { name := "fnUnionOrder", fn := fun _ => fun
  | [d] => { results := [.lit (.bool true)], args := [d] }
  | _ => none }
def fnUnionOrderRow : OpenClaim := { program := "ytbdacnblipmapaa", sum := "8d015b66ea82955cae414227e5abcfc1d14dc2d12ae15f9fc2d6e02bc39235bd", func := "pub-sheafwork/laws.FnUnionOrder", spec := "fnUnionOrder", unfollowed := true, recurses := true, apart := false }
def FnUnionOrderSaid : Prop := fnUnionOrderRow.holds Try.pinned (OpenSpec.ofChange fnUnionOrderSpec)

/-- ITS FALSE NEIGHBOUR: 'it returns false'. Refute it at one input. -/
def fnUnionOrderWrong : ChangeSpec := { name := "fnUnionOrder", fn := fun _ => fun
  | [d] => { results := [.lit (.bool false)], args := [d] }
  | _ => none }
def FnUnionOrderWrongFalsely : Prop := fnUnionOrderRow.holds Try.pinned (OpenSpec.ofChange fnUnionOrderWrong)

/-- 'laws.FnIntersectBy': WHATEVER THE INPUT: true; the input reads as it did. -/
def fnIntersectBySpec : ChangeSpec := { name := "fnIntersectBy", fn := fun _ => fun
  | [d1, d2, d3] => { results := [.lit (.bool true)], args := [d1, d2, d3] }
  | _ => none }
def fnIntersectByRow : OpenClaim := { program := "ytbdacnblipmapaa", sum := "8d015b66ea82955cae414227e5abcfc1d14dc2d12ae15f9fc2d6e02bc39235bd", func := "pub-sheafwork/laws.FnIntersectBy", spec := "fnIntersectBy", unfollowed := true, recurses := true, apart := false }
def FnIntersectBySaid : Prop := fnIntersectByRow.holds Try.pinned (OpenSpec.ofChange fnIntersectBySpec)

/-- ITS FALSE NEIGHBOUR: 'it returns false'. Refute it at one input. -/
def fnIntersectByWrong : ChangeSpec := { name := "fnIntersectBy", fn := fun _ => fun
  | [d1, d2, d3] => { results := [.lit (.bool false)], args := [d1, d2, d3] }
  | _ => none }
def FnIntersectByWrongFalsely : Prop := fnIntersectByRow.holds Try.pinned (OpenSpec.ofChange fnIntersectByWrong)

/-- 'laws.FnReplaced': WHATEVER THE INPUT: true; the input reads as it did. -/
def fnReplacedSpec : ChangeSpec := { name := "fnReplaced", fn := fun _ => fun
  | [d1, d2, d3, d4] => { results := [.lit (.bool true)], args := [d1, d2, d3, d4] }
  | _ => none }
def fnReplacedRow : OpenClaim := { program := "ytbdacnblipmapaa", sum := "8d015b66ea82955cae414227e5abcfc1d14dc2d12ae15f9fc2d6e02bc39235bd", func := "pub-sheafwork/laws.FnReplaced", spec := "fnReplaced", unfollowed := true, recurses := true, apart := false }
def FnReplacedSaid : Prop := fnReplacedRow.holds Try.pinned (OpenSpec.ofChange fnReplacedSpec)

/-- ITS FALSE NEIGHBOUR: 'it returns false'. Refute it at one input. -/
def fnReplacedWrong : ChangeSpec := { name := "fnReplaced", fn := fun _ => fun
  | [d1, d2, d3, d4] => { results := [.lit (.bool false)], args := [d1, d2, d3, d4] }
  | _ => none }
def FnReplacedWrongFalsely : Prop := fnReplacedRow.holds Try.pinned (OpenSpec.ofChange fnReplacedWrong)

/-- 'laws.FnWithoutPlaces': WHATEVER THE INPUT: true; the input reads as it did. -/
def fnWithoutPlacesSpec : ChangeSpec := { name := "fnWithoutPlaces", fn := fun _ => fun
  | [d1, d2] => { results := [.lit (.bool true)], args := [d1, d2] }
  | _ => none }
def fnWithoutPlacesRow : OpenClaim := { program := "ytbdacnblipmapaa", sum := "8d015b66ea82955cae414227e5abcfc1d14dc2d12ae15f9fc2d6e02bc39235bd", func := "pub-sheafwork/laws.FnWithoutPlaces", spec := "fnWithoutPlaces", unfollowed := true, recurses := true, apart := false }
def FnWithoutPlacesSaid : Prop := fnWithoutPlacesRow.holds Try.pinned (OpenSpec.ofChange fnWithoutPlacesSpec)

/-- ITS FALSE NEIGHBOUR: 'it returns false'. Refute it at one input. -/
def fnWithoutPlacesWrong : ChangeSpec := { name := "fnWithoutPlaces", fn := fun _ => fun
  | [d1, d2] => { results := [.lit (.bool false)], args := [d1, d2] }
  | _ => none }
def FnWithoutPlacesWrongFalsely : Prop := fnWithoutPlacesRow.holds Try.pinned (OpenSpec.ofChange fnWithoutPlacesWrong)

/-- 'laws.FnWindows': WHATEVER THE INPUT: true; the input reads as it did. -/
def fnWindowsSpec : ChangeSpec := { name := "fnWindows", fn := fun _ => fun
  | [d1, d2, d3] => { results := [.lit (.bool true)], args := [d1, d2, d3] }
  | _ => none }
def fnWindowsRow : OpenClaim := { program := "ytbdacnblipmapaa", sum := "8d015b66ea82955cae414227e5abcfc1d14dc2d12ae15f9fc2d6e02bc39235bd", func := "pub-sheafwork/laws.FnWindows", spec := "fnWindows", unfollowed := true, recurses := true, apart := false }
def FnWindowsSaid : Prop := fnWindowsRow.holds Try.pinned (OpenSpec.ofChange fnWindowsSpec)

/-- ITS FALSE NEIGHBOUR: 'it returns false'. Refute it at one input. -/
def fnWindowsWrong : ChangeSpec := { name := "fnWindows", fn := fun _ => fun
  | [d1, d2, d3] => { results := [.lit (.bool false)], args := [d1, d2, d3] }
  | _ => none }
def FnWindowsWrongFalsely : Prop := fnWindowsRow.holds Try.pinned (OpenSpec.ofChange fnWindowsWrong)

/-- 'laws.FnChunks': WHATEVER THE INPUT: true; the input reads as it did. -/
def fnChunksSpec : ChangeSpec := { name := "fnChunks", fn := fun _ => fun
  | [d1, d2] => { results := [.lit (.bool true)], args := [d1, d2] }
  | _ => none }
def fnChunksRow : OpenClaim := { program := "ytbdacnblipmapaa", sum := "8d015b66ea82955cae414227e5abcfc1d14dc2d12ae15f9fc2d6e02bc39235bd", func := "pub-sheafwork/laws.FnChunks", spec := "fnChunks", unfollowed := true, recurses := true, apart := false }
def FnChunksSaid : Prop := fnChunksRow.holds Try.pinned (OpenSpec.ofChange fnChunksSpec)

/-- ITS FALSE NEIGHBOUR: 'it returns false'. Refute it at one input. -/
def fnChunksWrong : ChangeSpec := { name := "fnChunks", fn := fun _ => fun
  | [d1, d2] => { results := [.lit (.bool false)], args := [d1, d2] }
  | _ => none }
def FnChunksWrongFalsely : Prop := fnChunksRow.holds Try.pinned (OpenSpec.ofChange fnChunksWrong)

/-- 'laws.FnCrossed': WHATEVER THE INPUT: true; the input reads as it did. -/
def fnCrossedSpec : ChangeSpec := { name := "fnCrossed", fn := fun _ => fun
  | [d1, d2, d3] => { results := [.lit (.bool true)], args := [d1, d2, d3] }
  | _ => none }
def fnCrossedRow : OpenClaim := { program := "ytbdacnblipmapaa", sum := "8d015b66ea82955cae414227e5abcfc1d14dc2d12ae15f9fc2d6e02bc39235bd", func := "pub-sheafwork/laws.FnCrossed", spec := "fnCrossed", unfollowed := true, recurses := true, apart := false }
def FnCrossedSaid : Prop := fnCrossedRow.holds Try.pinned (OpenSpec.ofChange fnCrossedSpec)

/-- ITS FALSE NEIGHBOUR: 'it returns false'. Refute it at one input. -/
def fnCrossedWrong : ChangeSpec := { name := "fnCrossed", fn := fun _ => fun
  | [d1, d2, d3] => { results := [.lit (.bool false)], args := [d1, d2, d3] }
  | _ => none }
def FnCrossedWrongFalsely : Prop := fnCrossedRow.holds Try.pinned (OpenSpec.ofChange fnCrossedWrong)

/-- 'laws.FnZipped': WHATEVER THE INPUT: true; the input reads as it did. -/
def fnZippedSpec : ChangeSpec := { name := "fnZipped", fn := fun _ => fun
  | [d1, d2, d3, d4] => { results := [.lit (.bool true)], args := [d1, d2, d3, d4] }
  | _ => none }
def fnZippedRow : OpenClaim := { program := "ytbdacnblipmapaa", sum := "8d015b66ea82955cae414227e5abcfc1d14dc2d12ae15f9fc2d6e02bc39235bd", func := "pub-sheafwork/laws.FnZipped", spec := "fnZipped", unfollowed := true, recurses := true, apart := false }
def FnZippedSaid : Prop := fnZippedRow.holds Try.pinned (OpenSpec.ofChange fnZippedSpec)

/-- ITS FALSE NEIGHBOUR: 'it returns false'. Refute it at one input. -/
def fnZippedWrong : ChangeSpec := { name := "fnZipped", fn := fun _ => fun
  | [d1, d2, d3, d4] => { results := [.lit (.bool false)], args := [d1, d2, d3, d4] }
  | _ => none }
def FnZippedWrongFalsely : Prop := fnZippedRow.holds Try.pinned (OpenSpec.ofChange fnZippedWrong)

/- THE SECOND FORM. 'bulk': how many values and letters a reading holds, each counted each time it is reached (what is shared counts as often as it is met; a slice's spare places count too). A statement '..UptoSaid' is the law's where the arguments, and the package variables that the reading takes, are together of bulk at most 1048576: NARROWER than '..Said'. Prove '..Said' where nothing that the law and all that it calls make is longer than what came in: it says more and counts as full. Else prove '..UptoSaid'. A law counts once. -/
mutual
def uptoBulk {H : Type} : DataW H → Nat
  | .lit (.string bytes) => bytes.length + 1
  | .lit _ => 1
  | .nil => 1
  | .ptr d => uptoBulk d + 1
  | .slice elems spare => uptoBulkAll elems + uptoBulkAll spare + 1
  | .agg parts => uptoBulkAll parts + 1
  | .iface _ d => uptoBulk d + 1
  | .map entries => uptoBulkEntries entries + 1
  | .held _ => 1
def uptoBulkAll {H : Type} : List (DataW H) → Nat
  | [] => 0
  | d :: r => uptoBulk d + uptoBulkAll r
def uptoBulkEntries {H : Type} : List (Lit × DataW H) → Nat
  | [] => 0
  | x :: r => uptoBulkEntry x + uptoBulkEntries r
def uptoBulkEntry {H : Type} : Lit × DataW H → Nat
  | (.string bytes, d) => bytes.length + uptoBulk d + 1
  | (_, d) => uptoBulk d + 1
 end
def uptoSmall : (H : Type) → List (DataW H) → Bool := fun _ ds => decide (uptoBulkAll ds ≤ 1048576)
def OpenSpec.upto (s : _root_.Go.ChangeSpec) : _root_.Go.OpenSpec := { _root_.Go.OpenSpec.ofChange s with cond := some uptoSmall }

/-- 'laws.FnUnionOrder', WHERE WHAT IT READS IS OF BULK AT MOST 1048576: true; the input reads as it did. -/
def fnUnionOrderUptoRow : OpenClaim := { program := "ytbdacnblipmapaa", sum := "8d015b66ea82955cae414227e5abcfc1d14dc2d12ae15f9fc2d6e02bc39235bd", func := "pub-sheafwork/laws.FnUnionOrder", spec := "fnUnionOrder", unfollowed := true, recurses := true, apart := false, narrowed := true }
def FnUnionOrderUptoSaid : Prop := fnUnionOrderUptoRow.holds Try.pinned (OpenSpec.upto fnUnionOrderSpec)

/-- 'laws.FnIntersectBy', WHERE WHAT IT READS IS OF BULK AT MOST 1048576: true; the input reads as it did. -/
def fnIntersectByUptoRow : OpenClaim := { program := "ytbdacnblipmapaa", sum := "8d015b66ea82955cae414227e5abcfc1d14dc2d12ae15f9fc2d6e02bc39235bd", func := "pub-sheafwork/laws.FnIntersectBy", spec := "fnIntersectBy", unfollowed := true, recurses := true, apart := false, narrowed := true }
def FnIntersectByUptoSaid : Prop := fnIntersectByUptoRow.holds Try.pinned (OpenSpec.upto fnIntersectBySpec)

/-- 'laws.FnReplaced', WHERE WHAT IT READS IS OF BULK AT MOST 1048576: true; the input reads as it did. -/
def fnReplacedUptoRow : OpenClaim := { program := "ytbdacnblipmapaa", sum := "8d015b66ea82955cae414227e5abcfc1d14dc2d12ae15f9fc2d6e02bc39235bd", func := "pub-sheafwork/laws.FnReplaced", spec := "fnReplaced", unfollowed := true, recurses := true, apart := false, narrowed := true }
def FnReplacedUptoSaid : Prop := fnReplacedUptoRow.holds Try.pinned (OpenSpec.upto fnReplacedSpec)

/-- 'laws.FnWithoutPlaces', WHERE WHAT IT READS IS OF BULK AT MOST 1048576: true; the input reads as it did. -/
def fnWithoutPlacesUptoRow : OpenClaim := { program := "ytbdacnblipmapaa", sum := "8d015b66ea82955cae414227e5abcfc1d14dc2d12ae15f9fc2d6e02bc39235bd", func := "pub-sheafwork/laws.FnWithoutPlaces", spec := "fnWithoutPlaces", unfollowed := true, recurses := true, apart := false, narrowed := true }
def FnWithoutPlacesUptoSaid : Prop := fnWithoutPlacesUptoRow.holds Try.pinned (OpenSpec.upto fnWithoutPlacesSpec)

/-- 'laws.FnWindows', WHERE WHAT IT READS IS OF BULK AT MOST 1048576: true; the input reads as it did. -/
def fnWindowsUptoRow : OpenClaim := { program := "ytbdacnblipmapaa", sum := "8d015b66ea82955cae414227e5abcfc1d14dc2d12ae15f9fc2d6e02bc39235bd", func := "pub-sheafwork/laws.FnWindows", spec := "fnWindows", unfollowed := true, recurses := true, apart := false, narrowed := true }
def FnWindowsUptoSaid : Prop := fnWindowsUptoRow.holds Try.pinned (OpenSpec.upto fnWindowsSpec)

/-- 'laws.FnChunks', WHERE WHAT IT READS IS OF BULK AT MOST 1048576: true; the input reads as it did. -/
def fnChunksUptoRow : OpenClaim := { program := "ytbdacnblipmapaa", sum := "8d015b66ea82955cae414227e5abcfc1d14dc2d12ae15f9fc2d6e02bc39235bd", func := "pub-sheafwork/laws.FnChunks", spec := "fnChunks", unfollowed := true, recurses := true, apart := false, narrowed := true }
def FnChunksUptoSaid : Prop := fnChunksUptoRow.holds Try.pinned (OpenSpec.upto fnChunksSpec)

/-- 'laws.FnCrossed', WHERE WHAT IT READS IS OF BULK AT MOST 1048576: true; the input reads as it did. -/
def fnCrossedUptoRow : OpenClaim := { program := "ytbdacnblipmapaa", sum := "8d015b66ea82955cae414227e5abcfc1d14dc2d12ae15f9fc2d6e02bc39235bd", func := "pub-sheafwork/laws.FnCrossed", spec := "fnCrossed", unfollowed := true, recurses := true, apart := false, narrowed := true }
def FnCrossedUptoSaid : Prop := fnCrossedUptoRow.holds Try.pinned (OpenSpec.upto fnCrossedSpec)

/-- 'laws.FnZipped', WHERE WHAT IT READS IS OF BULK AT MOST 1048576: true; the input reads as it did. -/
def fnZippedUptoRow : OpenClaim := { program := "ytbdacnblipmapaa", sum := "8d015b66ea82955cae414227e5abcfc1d14dc2d12ae15f9fc2d6e02bc39235bd", func := "pub-sheafwork/laws.FnZipped", spec := "fnZipped", unfollowed := true, recurses := true, apart := false, narrowed := true }
def FnZippedUptoSaid : Prop := fnZippedUptoRow.holds Try.pinned (OpenSpec.upto fnZippedSpec)

end Rows
end Go.Proofs.Ytbdacnblipmapaa
