/-
  No cell of these rows narrows 'for every input' (looked for: loops, veiled, ifaces, maps, wideKeys, modest, calm, conditions, laid).
  DERIVED. THE GIVEN ROWS OF THIS SEAT. 12 by the template 'for every input the law returns true; each argument reads behind the call as it read before'; 0 by the template 'total and deterministic' (their statements: YtealhfcckjdclaaTotals.lean).
  GIVEN WITH THE SEED: the statements are not yours to turn. If you find one false, say at which input.
  Laid BY PROGRAM, IN A SANDBOX (cutbox-rows.mjs): the forced cells as the released guide's own fill.sh prints them over the translation f67105abed431a3c… (all of the seat's roots in one cut). By AI agents, Wed Nov 11 2026. No macro, syntax, notation, axiom, sorry.
-/
import Derived.Test.YtealhfcckjdclaaChecked
import GoSem.Claim
import GoSem.ClaimJoined
import GoSem.ClaimMapViews
import Derived.JoinedTies
import Derived.KernelRfl
namespace Go.Proofs.Ytealhfcckjdclaa
/- THE CELL 'sum', in the pinned program and in every row, IS THE sha256 OF THE DUMP (.gsa) THAT YtealhfcckjdclaaProg.lean LOADS. Nothing in Lean hashes anything: it is a label: what it is worth is what the hold of that sum in a sandbox is worth. -/
noncomputable def Try.pinned : Pinned := { name := "ytealhfcckjdclaa", sum := "f67105abed431a3c78f70bbd23f493e10eaab20ded26da39bc56bb28a96895f3", checked := Try.checked }
namespace Rows
def none {H : Type} : Left H := { results := [], args := [] }

/-- 'laws.FnCompact': WHATEVER THE INPUT: true; the input reads as it did. -/
def fnCompactSpec : ChangeSpec := { name := "fnCompact", fn := fun _ => fun
  | [d] => { results := [.lit (.bool true)], args := [d] }
  | _ => none }
def fnCompactRow : OpenClaim := { program := "ytealhfcckjdclaa", sum := "f67105abed431a3c78f70bbd23f493e10eaab20ded26da39bc56bb28a96895f3", func := "pub-sheafwork/laws.FnCompact", spec := "fnCompact", unfollowed := true, recurses := true, apart := false }
def FnCompactSaid : Prop := fnCompactRow.holds Try.pinned (OpenSpec.ofChange fnCompactSpec)

/-- ITS FALSE NEIGHBOUR: 'it returns false'. Refute it at one input. -/
def fnCompactWrong : ChangeSpec := { name := "fnCompact", fn := fun _ => fun
  | [d] => { results := [.lit (.bool false)], args := [d] }
  | _ => none }
def FnCompactWrongFalsely : Prop := fnCompactRow.holds Try.pinned (OpenSpec.ofChange fnCompactWrong)

/-- 'laws.FnIntersectBy': WHATEVER THE INPUT: true; the input reads as it did. -/
def fnIntersectBySpec : ChangeSpec := { name := "fnIntersectBy", fn := fun _ => fun
  | [d1, d2, d3] => { results := [.lit (.bool true)], args := [d1, d2, d3] }
  | _ => none }
def fnIntersectByRow : OpenClaim := { program := "ytealhfcckjdclaa", sum := "f67105abed431a3c78f70bbd23f493e10eaab20ded26da39bc56bb28a96895f3", func := "pub-sheafwork/laws.FnIntersectBy", spec := "fnIntersectBy", unfollowed := true, recurses := true, apart := false }
def FnIntersectBySaid : Prop := fnIntersectByRow.holds Try.pinned (OpenSpec.ofChange fnIntersectBySpec)

/-- ITS FALSE NEIGHBOUR: 'it returns false'. Refute it at one input. -/
def fnIntersectByWrong : ChangeSpec := { name := "fnIntersectBy", fn := fun _ => fun
  | [d1, d2, d3] => { results := [.lit (.bool false)], args := [d1, d2, d3] }
  | _ => none }
def FnIntersectByWrongFalsely : Prop := fnIntersectByRow.holds Try.pinned (OpenSpec.ofChange fnIntersectByWrong)

/-- 'laws.FnTrimmedEnds': WHATEVER THE INPUT: true; the input reads as it did. -/
def fnTrimmedEndsSpec : ChangeSpec := { name := "fnTrimmedEnds", fn := fun _ => fun
  | [d1, d2, d3] => { results := [.lit (.bool true)], args := [d1, d2, d3] }
  | _ => none }
def fnTrimmedEndsRow : OpenClaim := { program := "ytealhfcckjdclaa", sum := "f67105abed431a3c78f70bbd23f493e10eaab20ded26da39bc56bb28a96895f3", func := "pub-sheafwork/laws.FnTrimmedEnds", spec := "fnTrimmedEnds", unfollowed := true, recurses := true, apart := false }
def FnTrimmedEndsSaid : Prop := fnTrimmedEndsRow.holds Try.pinned (OpenSpec.ofChange fnTrimmedEndsSpec)

/-- ITS FALSE NEIGHBOUR: 'it returns false'. Refute it at one input. -/
def fnTrimmedEndsWrong : ChangeSpec := { name := "fnTrimmedEnds", fn := fun _ => fun
  | [d1, d2, d3] => { results := [.lit (.bool false)], args := [d1, d2, d3] }
  | _ => none }
def FnTrimmedEndsWrongFalsely : Prop := fnTrimmedEndsRow.holds Try.pinned (OpenSpec.ofChange fnTrimmedEndsWrong)

/-- 'laws.FnWithout': WHATEVER THE INPUT: true; the input reads as it did. -/
def fnWithoutSpec : ChangeSpec := { name := "fnWithout", fn := fun _ => fun
  | [d1, d2, d3] => { results := [.lit (.bool true)], args := [d1, d2, d3] }
  | _ => none }
def fnWithoutRow : OpenClaim := { program := "ytealhfcckjdclaa", sum := "f67105abed431a3c78f70bbd23f493e10eaab20ded26da39bc56bb28a96895f3", func := "pub-sheafwork/laws.FnWithout", spec := "fnWithout", unfollowed := true, recurses := true, apart := false }
def FnWithoutSaid : Prop := fnWithoutRow.holds Try.pinned (OpenSpec.ofChange fnWithoutSpec)

/-- ITS FALSE NEIGHBOUR: 'it returns false'. Refute it at one input. -/
def fnWithoutWrong : ChangeSpec := { name := "fnWithout", fn := fun _ => fun
  | [d1, d2, d3] => { results := [.lit (.bool false)], args := [d1, d2, d3] }
  | _ => none }
def FnWithoutWrongFalsely : Prop := fnWithoutRow.holds Try.pinned (OpenSpec.ofChange fnWithoutWrong)

/-- 'laws.FnTakeFilter': WHATEVER THE INPUT: true; the input reads as it did. -/
def fnTakeFilterSpec : ChangeSpec := { name := "fnTakeFilter", fn := fun _ => fun
  | [d1, d2, d3] => { results := [.lit (.bool true)], args := [d1, d2, d3] }
  | _ => none }
def fnTakeFilterRow : OpenClaim := { program := "ytealhfcckjdclaa", sum := "f67105abed431a3c78f70bbd23f493e10eaab20ded26da39bc56bb28a96895f3", func := "pub-sheafwork/laws.FnTakeFilter", spec := "fnTakeFilter", unfollowed := true, recurses := true, apart := false }
def FnTakeFilterSaid : Prop := fnTakeFilterRow.holds Try.pinned (OpenSpec.ofChange fnTakeFilterSpec)

/-- ITS FALSE NEIGHBOUR: 'it returns false'. Refute it at one input. -/
def fnTakeFilterWrong : ChangeSpec := { name := "fnTakeFilter", fn := fun _ => fun
  | [d1, d2, d3] => { results := [.lit (.bool false)], args := [d1, d2, d3] }
  | _ => none }
def FnTakeFilterWrongFalsely : Prop := fnTakeFilterRow.holds Try.pinned (OpenSpec.ofChange fnTakeFilterWrong)

/-- 'laws.FnSubsets': WHATEVER THE INPUT: true; the input reads as it did. -/
def fnSubsetsSpec : ChangeSpec := { name := "fnSubsets", fn := fun _ => fun
  | [d1, d2] => { results := [.lit (.bool true)], args := [d1, d2] }
  | _ => none }
def fnSubsetsRow : OpenClaim := { program := "ytealhfcckjdclaa", sum := "f67105abed431a3c78f70bbd23f493e10eaab20ded26da39bc56bb28a96895f3", func := "pub-sheafwork/laws.FnSubsets", spec := "fnSubsets", unfollowed := true, recurses := true, apart := false }
def FnSubsetsSaid : Prop := fnSubsetsRow.holds Try.pinned (OpenSpec.ofChange fnSubsetsSpec)

/-- ITS FALSE NEIGHBOUR: 'it returns false'. Refute it at one input. -/
def fnSubsetsWrong : ChangeSpec := { name := "fnSubsets", fn := fun _ => fun
  | [d1, d2] => { results := [.lit (.bool false)], args := [d1, d2] }
  | _ => none }
def FnSubsetsWrongFalsely : Prop := fnSubsetsRow.holds Try.pinned (OpenSpec.ofChange fnSubsetsWrong)

/-- 'laws.FnMapRoads': WHATEVER THE INPUT: true; the input reads as it did. -/
def fnMapRoadsSpec : ChangeSpec := { name := "fnMapRoads", fn := fun _ => fun
  | [d1, d2] => { results := [.lit (.bool true)], args := [d1, d2] }
  | _ => none }
def fnMapRoadsRow : OpenClaim := { program := "ytealhfcckjdclaa", sum := "f67105abed431a3c78f70bbd23f493e10eaab20ded26da39bc56bb28a96895f3", func := "pub-sheafwork/laws.FnMapRoads", spec := "fnMapRoads", unfollowed := true, recurses := true, apart := false }
def FnMapRoadsSaid : Prop := fnMapRoadsRow.holds Try.pinned (OpenSpec.ofChange fnMapRoadsSpec)

/-- ITS FALSE NEIGHBOUR: 'it returns false'. Refute it at one input. -/
def fnMapRoadsWrong : ChangeSpec := { name := "fnMapRoads", fn := fun _ => fun
  | [d1, d2] => { results := [.lit (.bool false)], args := [d1, d2] }
  | _ => none }
def FnMapRoadsWrongFalsely : Prop := fnMapRoadsRow.holds Try.pinned (OpenSpec.ofChange fnMapRoadsWrong)

/-- 'laws.FnTakeWhile': WHATEVER THE INPUT: true; the input reads as it did. -/
def fnTakeWhileSpec : ChangeSpec := { name := "fnTakeWhile", fn := fun _ => fun
  | [d1, d2] => { results := [.lit (.bool true)], args := [d1, d2] }
  | _ => none }
def fnTakeWhileRow : OpenClaim := { program := "ytealhfcckjdclaa", sum := "f67105abed431a3c78f70bbd23f493e10eaab20ded26da39bc56bb28a96895f3", func := "pub-sheafwork/laws.FnTakeWhile", spec := "fnTakeWhile", unfollowed := true, recurses := true, apart := false }
def FnTakeWhileSaid : Prop := fnTakeWhileRow.holds Try.pinned (OpenSpec.ofChange fnTakeWhileSpec)

/-- ITS FALSE NEIGHBOUR: 'it returns false'. Refute it at one input. -/
def fnTakeWhileWrong : ChangeSpec := { name := "fnTakeWhile", fn := fun _ => fun
  | [d1, d2] => { results := [.lit (.bool false)], args := [d1, d2] }
  | _ => none }
def FnTakeWhileWrongFalsely : Prop := fnTakeWhileRow.holds Try.pinned (OpenSpec.ofChange fnTakeWhileWrong)

/-- 'laws.FnFilterRoads': WHATEVER THE INPUT: true; the input reads as it did. -/
def fnFilterRoadsSpec : ChangeSpec := { name := "fnFilterRoads", fn := fun _ => fun
  | [d1, d2] => { results := [.lit (.bool true)], args := [d1, d2] }
  | _ => none }
def fnFilterRoadsRow : OpenClaim := { program := "ytealhfcckjdclaa", sum := "f67105abed431a3c78f70bbd23f493e10eaab20ded26da39bc56bb28a96895f3", func := "pub-sheafwork/laws.FnFilterRoads", spec := "fnFilterRoads", unfollowed := true, recurses := true, apart := false }
def FnFilterRoadsSaid : Prop := fnFilterRoadsRow.holds Try.pinned (OpenSpec.ofChange fnFilterRoadsSpec)

/-- ITS FALSE NEIGHBOUR: 'it returns false'. Refute it at one input. -/
def fnFilterRoadsWrong : ChangeSpec := { name := "fnFilterRoads", fn := fun _ => fun
  | [d1, d2] => { results := [.lit (.bool false)], args := [d1, d2] }
  | _ => none }
def FnFilterRoadsWrongFalsely : Prop := fnFilterRoadsRow.holds Try.pinned (OpenSpec.ofChange fnFilterRoadsWrong)

/-- 'laws.FnUnionOrder': WHATEVER THE INPUT: true; the input reads as it did. -/
def fnUnionOrderSpec : ChangeSpec := { name := "fnUnionOrder", fn := fun _ => fun
  | [d] => { results := [.lit (.bool true)], args := [d] }
  | _ => none }
def fnUnionOrderRow : OpenClaim := { program := "ytealhfcckjdclaa", sum := "f67105abed431a3c78f70bbd23f493e10eaab20ded26da39bc56bb28a96895f3", func := "pub-sheafwork/laws.FnUnionOrder", spec := "fnUnionOrder", unfollowed := true, recurses := true, apart := false }
def FnUnionOrderSaid : Prop := fnUnionOrderRow.holds Try.pinned (OpenSpec.ofChange fnUnionOrderSpec)

/-- ITS FALSE NEIGHBOUR: 'it returns false'. Refute it at one input. -/
def fnUnionOrderWrong : ChangeSpec := { name := "fnUnionOrder", fn := fun _ => fun
  | [d] => { results := [.lit (.bool false)], args := [d] }
  | _ => none }
def FnUnionOrderWrongFalsely : Prop := fnUnionOrderRow.holds Try.pinned (OpenSpec.ofChange fnUnionOrderWrong)

/-- 'laws.FnTrimmed': WHATEVER THE INPUT: true; the input reads as it did. -/
def fnTrimmedSpec : ChangeSpec := { name := "fnTrimmed", fn := fun _ => fun
  | [d1, d2] => { results := [.lit (.bool true)], args := [d1, d2] }
  | _ => none }
def fnTrimmedRow : OpenClaim := { program := "ytealhfcckjdclaa", sum := "f67105abed431a3c78f70bbd23f493e10eaab20ded26da39bc56bb28a96895f3", func := "pub-sheafwork/laws.FnTrimmed", spec := "fnTrimmed", unfollowed := true, recurses := true, apart := false }
def FnTrimmedSaid : Prop := fnTrimmedRow.holds Try.pinned (OpenSpec.ofChange fnTrimmedSpec)

/-- ITS FALSE NEIGHBOUR: 'it returns false'. Refute it at one input. -/
def fnTrimmedWrong : ChangeSpec := { name := "fnTrimmed", fn := fun _ => fun
  | [d1, d2] => { results := [.lit (.bool false)], args := [d1, d2] }
  | _ => none }
def FnTrimmedWrongFalsely : Prop := fnTrimmedRow.holds Try.pinned (OpenSpec.ofChange fnTrimmedWrong)

/-- 'laws.FnTakeDrop': WHATEVER THE INPUT: true; the input reads as it did. -/
def fnTakeDropSpec : ChangeSpec := { name := "fnTakeDrop", fn := fun _ => fun
  | [d1, d2] => { results := [.lit (.bool true)], args := [d1, d2] }
  | _ => none }
def fnTakeDropRow : OpenClaim := { program := "ytealhfcckjdclaa", sum := "f67105abed431a3c78f70bbd23f493e10eaab20ded26da39bc56bb28a96895f3", func := "pub-sheafwork/laws.FnTakeDrop", spec := "fnTakeDrop", unfollowed := true, recurses := true, apart := false }
def FnTakeDropSaid : Prop := fnTakeDropRow.holds Try.pinned (OpenSpec.ofChange fnTakeDropSpec)

/-- ITS FALSE NEIGHBOUR: 'it returns false'. Refute it at one input. -/
def fnTakeDropWrong : ChangeSpec := { name := "fnTakeDrop", fn := fun _ => fun
  | [d1, d2] => { results := [.lit (.bool false)], args := [d1, d2] }
  | _ => none }
def FnTakeDropWrongFalsely : Prop := fnTakeDropRow.holds Try.pinned (OpenSpec.ofChange fnTakeDropWrong)

/- THE SECOND FORM. 'bulk': how many values and letters a reading holds, each counted each time it is reached (what is shared counts as often as it is met; a slice's spare places count too). A statement '..UptoSaid' is the law's where the arguments, and the package variables that the reading takes, are together of bulk at most 1048576: NARROWER than '..Said'. Prove '..Said' where nothing that the law and all that it calls make is longer than what came in: it says more and counts as full. Else prove '..UptoSaid'. A law counts once. -/
mutual
def uptoBulk {H : Type} : DataW H → Nat
  | .lit (.string bytes) => bytes.length + 1
  | .lit _ => 1
  | .nil => 1
  | .ptr d => uptoBulk d + 1
  | .slice elems spare => uptoBulkAll elems + uptoBulkAll spare + 1
  | .agg parts => uptoBulkAll parts + 1
  | .iface _ d => uptoBulk d + 1
  | .map entries => uptoBulkEntries entries + 1
  | .held _ => 1
def uptoBulkAll {H : Type} : List (DataW H) → Nat
  | [] => 0
  | d :: r => uptoBulk d + uptoBulkAll r
def uptoBulkEntries {H : Type} : List (Lit × DataW H) → Nat
  | [] => 0
  | x :: r => uptoBulkEntry x + uptoBulkEntries r
def uptoBulkEntry {H : Type} : Lit × DataW H → Nat
  | (.string bytes, d) => bytes.length + uptoBulk d + 1
  | (_, d) => uptoBulk d + 1
 end
def uptoSmall : (H : Type) → List (DataW H) → Bool := fun _ ds => decide (uptoBulkAll ds ≤ 1048576)
def OpenSpec.upto (s : _root_.Go.ChangeSpec) : _root_.Go.OpenSpec := { _root_.Go.OpenSpec.ofChange s with cond := some uptoSmall }

/-- 'laws.FnCompact', WHERE WHAT IT READS IS OF BULK AT MOST 1048576: true; the input reads as it did. -/
def fnCompactUptoRow : OpenClaim := { program := "ytealhfcckjdclaa", sum := "f67105abed431a3c78f70bbd23f493e10eaab20ded26da39bc56bb28a96895f3", func := "pub-sheafwork/laws.FnCompact", spec := "fnCompact", unfollowed := true, recurses := true, apart := false, narrowed := true }
def FnCompactUptoSaid : Prop := fnCompactUptoRow.holds Try.pinned (OpenSpec.upto fnCompactSpec)

/-- 'laws.FnIntersectBy', WHERE WHAT IT READS IS OF BULK AT MOST 1048576: true; the input reads as it did. -/
def fnIntersectByUptoRow : OpenClaim := { program := "ytealhfcckjdclaa", sum := "f67105abed431a3c78f70bbd23f493e10eaab20ded26da39bc56bb28a96895f3", func := "pub-sheafwork/laws.FnIntersectBy", spec := "fnIntersectBy", unfollowed := true, recurses := true, apart := false, narrowed := true }
def FnIntersectByUptoSaid : Prop := fnIntersectByUptoRow.holds Try.pinned (OpenSpec.upto fnIntersectBySpec)

/-- 'laws.FnTrimmedEnds', WHERE WHAT IT READS IS OF BULK AT MOST 1048576: true; the input reads as it did. -/
def fnTrimmedEndsUptoRow : OpenClaim := { program := "ytealhfcckjdclaa", sum := "f67105abed431a3c78f70bbd23f493e10eaab20ded26da39bc56bb28a96895f3", func := "pub-sheafwork/laws.FnTrimmedEnds", spec := "fnTrimmedEnds", unfollowed := true, recurses := true, apart := false, narrowed := true }
def FnTrimmedEndsUptoSaid : Prop := fnTrimmedEndsUptoRow.holds Try.pinned (OpenSpec.upto fnTrimmedEndsSpec)

/-- 'laws.FnWithout', WHERE WHAT IT READS IS OF BULK AT MOST 1048576: true; the input reads as it did. -/
def fnWithoutUptoRow : OpenClaim := { program := "ytealhfcckjdclaa", sum := "f67105abed431a3c78f70bbd23f493e10eaab20ded26da39bc56bb28a96895f3", func := "pub-sheafwork/laws.FnWithout", spec := "fnWithout", unfollowed := true, recurses := true, apart := false, narrowed := true }
def FnWithoutUptoSaid : Prop := fnWithoutUptoRow.holds Try.pinned (OpenSpec.upto fnWithoutSpec)

/-- 'laws.FnTakeFilter', WHERE WHAT IT READS IS OF BULK AT MOST 1048576: true; the input reads as it did. -/
def fnTakeFilterUptoRow : OpenClaim := { program := "ytealhfcckjdclaa", sum := "f67105abed431a3c78f70bbd23f493e10eaab20ded26da39bc56bb28a96895f3", func := "pub-sheafwork/laws.FnTakeFilter", spec := "fnTakeFilter", unfollowed := true, recurses := true, apart := false, narrowed := true }
def FnTakeFilterUptoSaid : Prop := fnTakeFilterUptoRow.holds Try.pinned (OpenSpec.upto fnTakeFilterSpec)

/-- 'laws.FnSubsets', WHERE WHAT IT READS IS OF BULK AT MOST 1048576: true; the input reads as it did. -/
def fnSubsetsUptoRow : OpenClaim := { program := "ytealhfcckjdclaa", sum := "f67105abed431a3c78f70bbd23f493e10eaab20ded26da39bc56bb28a96895f3", func := "pub-sheafwork/laws.FnSubsets", spec := "fnSubsets", unfollowed := true, recurses := true, apart := false, narrowed := true }
def FnSubsetsUptoSaid : Prop := fnSubsetsUptoRow.holds Try.pinned (OpenSpec.upto fnSubsetsSpec)

/-- 'laws.FnMapRoads', WHERE WHAT IT READS IS OF BULK AT MOST 1048576: true; the input reads as it did. -/
def fnMapRoadsUptoRow : OpenClaim := { program := "ytealhfcckjdclaa", sum := "f67105abed431a3c78f70bbd23f493e10eaab20ded26da39bc56bb28a96895f3", func := "pub-sheafwork/laws.FnMapRoads", spec := "fnMapRoads", unfollowed := true, recurses := true, apart := false, narrowed := true }
def FnMapRoadsUptoSaid : Prop := fnMapRoadsUptoRow.holds Try.pinned (OpenSpec.upto fnMapRoadsSpec)

/-- 'laws.FnTakeWhile', WHERE WHAT IT READS IS OF BULK AT MOST 1048576: true; the input reads as it did. -/
def fnTakeWhileUptoRow : OpenClaim := { program := "ytealhfcckjdclaa", sum := "f67105abed431a3c78f70bbd23f493e10eaab20ded26da39bc56bb28a96895f3", func := "pub-sheafwork/laws.FnTakeWhile", spec := "fnTakeWhile", unfollowed := true, recurses := true, apart := false, narrowed := true }
def FnTakeWhileUptoSaid : Prop := fnTakeWhileUptoRow.holds Try.pinned (OpenSpec.upto fnTakeWhileSpec)

/-- 'laws.FnFilterRoads', WHERE WHAT IT READS IS OF BULK AT MOST 1048576: true; the input reads as it did. -/
def fnFilterRoadsUptoRow : OpenClaim := { program := "ytealhfcckjdclaa", sum := "f67105abed431a3c78f70bbd23f493e10eaab20ded26da39bc56bb28a96895f3", func := "pub-sheafwork/laws.FnFilterRoads", spec := "fnFilterRoads", unfollowed := true, recurses := true, apart := false, narrowed := true }
def FnFilterRoadsUptoSaid : Prop := fnFilterRoadsUptoRow.holds Try.pinned (OpenSpec.upto fnFilterRoadsSpec)

/-- 'laws.FnUnionOrder', WHERE WHAT IT READS IS OF BULK AT MOST 1048576: true; the input reads as it did. -/
def fnUnionOrderUptoRow : OpenClaim := { program := "ytealhfcckjdclaa", sum := "f67105abed431a3c78f70bbd23f493e10eaab20ded26da39bc56bb28a96895f3", func := "pub-sheafwork/laws.FnUnionOrder", spec := "fnUnionOrder", unfollowed := true, recurses := true, apart := false, narrowed := true }
def FnUnionOrderUptoSaid : Prop := fnUnionOrderUptoRow.holds Try.pinned (OpenSpec.upto fnUnionOrderSpec)

/-- 'laws.FnTrimmed', WHERE WHAT IT READS IS OF BULK AT MOST 1048576: true; the input reads as it did. -/
def fnTrimmedUptoRow : OpenClaim := { program := "ytealhfcckjdclaa", sum := "f67105abed431a3c78f70bbd23f493e10eaab20ded26da39bc56bb28a96895f3", func := "pub-sheafwork/laws.FnTrimmed", spec := "fnTrimmed", unfollowed := true, recurses := true, apart := false, narrowed := true }
def FnTrimmedUptoSaid : Prop := fnTrimmedUptoRow.holds Try.pinned (OpenSpec.upto fnTrimmedSpec)

/-- 'laws.FnTakeDrop', WHERE WHAT IT READS IS OF BULK AT MOST 1048576: true; the input reads as it did. -/
def fnTakeDropUptoRow : OpenClaim := { program := "ytealhfcckjdclaa", sum := "f67105abed431a3c78f70bbd23f493e10eaab20ded26da39bc56bb28a96895f3", func := "pub-sheafwork/laws.FnTakeDrop", spec := "fnTakeDrop", unfollowed := true, recurses := true, apart := false, narrowed := true }
def FnTakeDropUptoSaid : Prop := fnTakeDropUptoRow.holds Try.pinned (OpenSpec.upto fnTakeDropSpec)

end Rows
end Go.Proofs.Ytealhfcckjdclaa
