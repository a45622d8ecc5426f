/-
  No cell of these rows narrows 'for every input' (looked for: loops, veiled, ifaces, maps, wideKeys, modest, calm, conditions, laid).
  DERIVED. THE GIVEN ROWS OF THIS SEAT. 12 by the template 'for every input the law returns true; each argument reads behind the call as it read before'; 0 by the template 'total and deterministic' (their statements: YtllmbopajlfneaaTotals.lean).
  GIVEN WITH THE SEED: the statements are not yours to turn. If you find one false, say at which input.
  Laid BY PROGRAM, IN A SANDBOX (cutbox-rows.mjs): the forced cells as the released guide's own fill.sh prints them over the translation f9546b7cc0c285cd… (all of the seat's roots in one cut). By AI agents, Wed Nov 11 2026. No macro, syntax, notation, axiom, sorry.
-/
import Derived.Test.YtllmbopajlfneaaChecked
import GoSem.Claim
import GoSem.ClaimJoined
import GoSem.ClaimMapViews
import Derived.JoinedTies
import Derived.KernelRfl
namespace Go.Proofs.Ytllmbopajlfneaa
/- THE CELL 'sum', in the pinned program and in every row, IS THE sha256 OF THE DUMP (.gsa) THAT YtllmbopajlfneaaProg.lean LOADS. Nothing in Lean hashes anything: it is a label: what it is worth is what the hold of that sum in a sandbox is worth. -/
noncomputable def Try.pinned : Pinned := { name := "ytllmbopajlfneaa", sum := "f9546b7cc0c285cda562ddc67a8e459b5e22bf932fb81098f8aa32eddc34e8af", checked := Try.checked }
namespace Rows
def none {H : Type} : Left H := { results := [], args := [] }

/-- 'laws.FnSubset': WHATEVER THE INPUT: true; the input reads as it did. -/
def fnSubsetSpec : ChangeSpec := { name := "fnSubset", fn := fun _ => fun
  | [d1, d2, d3] => { results := [.lit (.bool true)], args := [d1, d2, d3] }
  | _ => none }
def fnSubsetRow : OpenClaim := { program := "ytllmbopajlfneaa", sum := "f9546b7cc0c285cda562ddc67a8e459b5e22bf932fb81098f8aa32eddc34e8af", func := "pub-sheafwork/laws.FnSubset", spec := "fnSubset", unfollowed := true, recurses := true, apart := false }
def FnSubsetSaid : Prop := fnSubsetRow.holds Try.pinned (OpenSpec.ofChange fnSubsetSpec)

/-- ITS FALSE NEIGHBOUR: 'it returns false'. Refute it at one input. -/
def fnSubsetWrong : ChangeSpec := { name := "fnSubset", fn := fun _ => fun
  | [d1, d2, d3] => { results := [.lit (.bool false)], args := [d1, d2, d3] }
  | _ => none }
def FnSubsetWrongFalsely : Prop := fnSubsetRow.holds Try.pinned (OpenSpec.ofChange fnSubsetWrong)

/-- 'laws.FnEnds': WHATEVER THE INPUT: true; the input reads as it did. -/
def fnEndsSpec : ChangeSpec := { name := "fnEnds", fn := fun _ => fun
  | [d1, d2, d3] => { results := [.lit (.bool true)], args := [d1, d2, d3] }
  | _ => none }
def fnEndsRow : OpenClaim := { program := "ytllmbopajlfneaa", sum := "f9546b7cc0c285cda562ddc67a8e459b5e22bf932fb81098f8aa32eddc34e8af", func := "pub-sheafwork/laws.FnEnds", spec := "fnEnds", unfollowed := true, recurses := true, apart := false }
def FnEndsSaid : Prop := fnEndsRow.holds Try.pinned (OpenSpec.ofChange fnEndsSpec)

/-- ITS FALSE NEIGHBOUR: 'it returns false'. Refute it at one input. -/
def fnEndsWrong : ChangeSpec := { name := "fnEnds", fn := fun _ => fun
  | [d1, d2, d3] => { results := [.lit (.bool false)], args := [d1, d2, d3] }
  | _ => none }
def FnEndsWrongFalsely : Prop := fnEndsRow.holds Try.pinned (OpenSpec.ofChange fnEndsWrong)

/-- 'laws.FnFolds': WHATEVER THE INPUT: true; the input reads as it did. -/
def fnFoldsSpec : ChangeSpec := { name := "fnFolds", fn := fun _ => fun
  | [d1, d2, d3, d4] => { results := [.lit (.bool true)], args := [d1, d2, d3, d4] }
  | _ => none }
def fnFoldsRow : OpenClaim := { program := "ytllmbopajlfneaa", sum := "f9546b7cc0c285cda562ddc67a8e459b5e22bf932fb81098f8aa32eddc34e8af", func := "pub-sheafwork/laws.FnFolds", spec := "fnFolds", unfollowed := true, recurses := true, apart := false }
def FnFoldsSaid : Prop := fnFoldsRow.holds Try.pinned (OpenSpec.ofChange fnFoldsSpec)

/-- ITS FALSE NEIGHBOUR: 'it returns false'. Refute it at one input. -/
def fnFoldsWrong : ChangeSpec := { name := "fnFolds", fn := fun _ => fun
  | [d1, d2, d3, d4] => { results := [.lit (.bool false)], args := [d1, d2, d3, d4] }
  | _ => none }
def FnFoldsWrongFalsely : Prop := fnFoldsRow.holds Try.pinned (OpenSpec.ofChange fnFoldsWrong)

/-- 'laws.FnSums': WHATEVER THE INPUT: true; the input reads as it did. -/
def fnSumsSpec : ChangeSpec := { name := "fnSums", fn := fun _ => fun
  | [d1, d2, d3] => { results := [.lit (.bool true)], args := [d1, d2, d3] }
  | _ => none }
def fnSumsRow : OpenClaim := { program := "ytllmbopajlfneaa", sum := "f9546b7cc0c285cda562ddc67a8e459b5e22bf932fb81098f8aa32eddc34e8af", func := "pub-sheafwork/laws.FnSums", spec := "fnSums", unfollowed := true, recurses := true, apart := false }
def FnSumsSaid : Prop := fnSumsRow.holds Try.pinned (OpenSpec.ofChange fnSumsSpec)

/-- ITS FALSE NEIGHBOUR: 'it returns false'. Refute it at one input. -/
def fnSumsWrong : ChangeSpec := { name := "fnSums", fn := fun _ => fun
  | [d1, d2, d3] => { results := [.lit (.bool false)], args := [d1, d2, d3] }
  | _ => none }
def FnSumsWrongFalsely : Prop := fnSumsRow.holds Try.pinned (OpenSpec.ofChange fnSumsWrong)

/-- 'laws.FnFilterMap': WHATEVER THE INPUT: true; the input reads as it did. -/
def fnFilterMapSpec : ChangeSpec := { name := "fnFilterMap", fn := fun _ => fun
  | [d1, d2, d3] => { results := [.lit (.bool true)], args := [d1, d2, d3] }
  | _ => none }
def fnFilterMapRow : OpenClaim := { program := "ytllmbopajlfneaa", sum := "f9546b7cc0c285cda562ddc67a8e459b5e22bf932fb81098f8aa32eddc34e8af", func := "pub-sheafwork/laws.FnFilterMap", spec := "fnFilterMap", unfollowed := true, recurses := true, apart := false }
def FnFilterMapSaid : Prop := fnFilterMapRow.holds Try.pinned (OpenSpec.ofChange fnFilterMapSpec)

/-- ITS FALSE NEIGHBOUR: 'it returns false'. Refute it at one input. -/
def fnFilterMapWrong : ChangeSpec := { name := "fnFilterMap", fn := fun _ => fun
  | [d1, d2, d3] => { results := [.lit (.bool false)], args := [d1, d2, d3] }
  | _ => none }
def FnFilterMapWrongFalsely : Prop := fnFilterMapRow.holds Try.pinned (OpenSpec.ofChange fnFilterMapWrong)

/-- 'laws.FnCutEnds': WHATEVER THE INPUT: true; the input reads as it did. -/
def fnCutEndsSpec : ChangeSpec := { name := "fnCutEnds", fn := fun _ => fun
  | [d1, d2] => { results := [.lit (.bool true)], args := [d1, d2] }
  | _ => none }
def fnCutEndsRow : OpenClaim := { program := "ytllmbopajlfneaa", sum := "f9546b7cc0c285cda562ddc67a8e459b5e22bf932fb81098f8aa32eddc34e8af", func := "pub-sheafwork/laws.FnCutEnds", spec := "fnCutEnds", unfollowed := true, recurses := true, apart := false }
def FnCutEndsSaid : Prop := fnCutEndsRow.holds Try.pinned (OpenSpec.ofChange fnCutEndsSpec)

/-- ITS FALSE NEIGHBOUR: 'it returns false'. Refute it at one input. -/
def fnCutEndsWrong : ChangeSpec := { name := "fnCutEnds", fn := fun _ => fun
  | [d1, d2] => { results := [.lit (.bool false)], args := [d1, d2] }
  | _ => none }
def FnCutEndsWrongFalsely : Prop := fnCutEndsRow.holds Try.pinned (OpenSpec.ofChange fnCutEndsWrong)

/-- 'laws.FnSplice': WHATEVER THE INPUT: true; the input reads as it did. -/
def fnSpliceSpec : ChangeSpec := { name := "fnSplice", fn := fun _ => fun
  | [d1, d2, d3] => { results := [.lit (.bool true)], args := [d1, d2, d3] }
  | _ => none }
def fnSpliceRow : OpenClaim := { program := "ytllmbopajlfneaa", sum := "f9546b7cc0c285cda562ddc67a8e459b5e22bf932fb81098f8aa32eddc34e8af", func := "pub-sheafwork/laws.FnSplice", spec := "fnSplice", unfollowed := true, recurses := true, apart := false }
def FnSpliceSaid : Prop := fnSpliceRow.holds Try.pinned (OpenSpec.ofChange fnSpliceSpec)

/-- ITS FALSE NEIGHBOUR: 'it returns false'. Refute it at one input. -/
def fnSpliceWrong : ChangeSpec := { name := "fnSplice", fn := fun _ => fun
  | [d1, d2, d3] => { results := [.lit (.bool false)], args := [d1, d2, d3] }
  | _ => none }
def FnSpliceWrongFalsely : Prop := fnSpliceRow.holds Try.pinned (OpenSpec.ofChange fnSpliceWrong)

/-- 'laws.FnMeans': WHATEVER THE INPUT: true; the input reads as it did. -/
def fnMeansSpec : ChangeSpec := { name := "fnMeans", fn := fun _ => fun
  | [d] => { results := [.lit (.bool true)], args := [d] }
  | _ => none }
def fnMeansRow : OpenClaim := { program := "ytllmbopajlfneaa", sum := "f9546b7cc0c285cda562ddc67a8e459b5e22bf932fb81098f8aa32eddc34e8af", func := "pub-sheafwork/laws.FnMeans", spec := "fnMeans", unfollowed := true, recurses := true, apart := false }
def FnMeansSaid : Prop := fnMeansRow.holds Try.pinned (OpenSpec.ofChange fnMeansSpec)

/-- ITS FALSE NEIGHBOUR: 'it returns false'. Refute it at one input. -/
def fnMeansWrong : ChangeSpec := { name := "fnMeans", fn := fun _ => fun
  | [d] => { results := [.lit (.bool false)], args := [d] }
  | _ => none }
def FnMeansWrongFalsely : Prop := fnMeansRow.holds Try.pinned (OpenSpec.ofChange fnMeansWrong)

/-- 'laws.FnRanges': WHATEVER THE INPUT: true; the input reads as it did. -/
def fnRangesSpec : ChangeSpec := { name := "fnRanges", fn := fun _ => fun
  | [d1, d2] => { results := [.lit (.bool true)], args := [d1, d2] }
  | _ => none }
def fnRangesRow : OpenClaim := { program := "ytllmbopajlfneaa", sum := "f9546b7cc0c285cda562ddc67a8e459b5e22bf932fb81098f8aa32eddc34e8af", func := "pub-sheafwork/laws.FnRanges", spec := "fnRanges", unfollowed := true, recurses := true, apart := false }
def FnRangesSaid : Prop := fnRangesRow.holds Try.pinned (OpenSpec.ofChange fnRangesSpec)

/-- ITS FALSE NEIGHBOUR: 'it returns false'. Refute it at one input. -/
def fnRangesWrong : ChangeSpec := { name := "fnRanges", fn := fun _ => fun
  | [d1, d2] => { results := [.lit (.bool false)], args := [d1, d2] }
  | _ => none }
def FnRangesWrongFalsely : Prop := fnRangesRow.holds Try.pinned (OpenSpec.ofChange fnRangesWrong)

/-- 'laws.FnRangeSteps': WHATEVER THE INPUT: true; the input reads as it did. -/
def fnRangeStepsSpec : ChangeSpec := { name := "fnRangeSteps", fn := fun _ => fun
  | [d1, d2, d3] => { results := [.lit (.bool true)], args := [d1, d2, d3] }
  | _ => none }
def fnRangeStepsRow : OpenClaim := { program := "ytllmbopajlfneaa", sum := "f9546b7cc0c285cda562ddc67a8e459b5e22bf932fb81098f8aa32eddc34e8af", func := "pub-sheafwork/laws.FnRangeSteps", spec := "fnRangeSteps", inPlace := ["math.archCeil", "math.archFloor", "math.Float64bits", "math.Float64frombits", "math.archTrunc"], unfollowed := true, recurses := true, apart := false }
def FnRangeStepsSaid : Prop := fnRangeStepsRow.holds Try.pinned (OpenSpec.ofChange fnRangeStepsSpec)

/-- ITS FALSE NEIGHBOUR: 'it returns false'. Refute it at one input. -/
def fnRangeStepsWrong : ChangeSpec := { name := "fnRangeSteps", fn := fun _ => fun
  | [d1, d2, d3] => { results := [.lit (.bool false)], args := [d1, d2, d3] }
  | _ => none }
def FnRangeStepsWrongFalsely : Prop := fnRangeStepsRow.holds Try.pinned (OpenSpec.ofChange fnRangeStepsWrong)

/-- 'laws.FnMatches': WHATEVER THE INPUT: true; the input reads as it did. -/
def fnMatchesSpec : ChangeSpec := { name := "fnMatches", fn := fun _ => fun
  | [d1, d2, d3, d4] => { results := [.lit (.bool true)], args := [d1, d2, d3, d4] }
  | _ => none }
def fnMatchesRow : OpenClaim := { program := "ytllmbopajlfneaa", sum := "f9546b7cc0c285cda562ddc67a8e459b5e22bf932fb81098f8aa32eddc34e8af", func := "pub-sheafwork/laws.FnMatches", spec := "fnMatches", unfollowed := true, recurses := true, apart := false }
def FnMatchesSaid : Prop := fnMatchesRow.holds Try.pinned (OpenSpec.ofChange fnMatchesSpec)

/-- ITS FALSE NEIGHBOUR: 'it returns false'. Refute it at one input. -/
def fnMatchesWrong : ChangeSpec := { name := "fnMatches", fn := fun _ => fun
  | [d1, d2, d3, d4] => { results := [.lit (.bool false)], args := [d1, d2, d3, d4] }
  | _ => none }
def FnMatchesWrongFalsely : Prop := fnMatchesRow.holds Try.pinned (OpenSpec.ofChange fnMatchesWrong)

/-- 'laws.FnCrossed': WHATEVER THE INPUT: true; the input reads as it did. -/
def fnCrossedSpec : ChangeSpec := { name := "fnCrossed", fn := fun _ => fun
  | [d1, d2, d3] => { results := [.lit (.bool true)], args := [d1, d2, d3] }
  | _ => none }
def fnCrossedRow : OpenClaim := { program := "ytllmbopajlfneaa", sum := "f9546b7cc0c285cda562ddc67a8e459b5e22bf932fb81098f8aa32eddc34e8af", func := "pub-sheafwork/laws.FnCrossed", spec := "fnCrossed", unfollowed := true, recurses := true, apart := false }
def FnCrossedSaid : Prop := fnCrossedRow.holds Try.pinned (OpenSpec.ofChange fnCrossedSpec)

/-- ITS FALSE NEIGHBOUR: 'it returns false'. Refute it at one input. -/
def fnCrossedWrong : ChangeSpec := { name := "fnCrossed", fn := fun _ => fun
  | [d1, d2, d3] => { results := [.lit (.bool false)], args := [d1, d2, d3] }
  | _ => none }
def FnCrossedWrongFalsely : Prop := fnCrossedRow.holds Try.pinned (OpenSpec.ofChange fnCrossedWrong)

/- THE SECOND FORM. 'bulk': how many values and letters a reading holds, each counted each time it is reached (what is shared counts as often as it is met; a slice's spare places count too). A statement '..UptoSaid' is the law's where the arguments, and the package variables that the reading takes, are together of bulk at most 1048576: NARROWER than '..Said'. Prove '..Said' where nothing that the law and all that it calls make is longer than what came in: it says more and counts as full. Else prove '..UptoSaid'. A law counts once. -/
mutual
def uptoBulk {H : Type} : DataW H → Nat
  | .lit (.string bytes) => bytes.length + 1
  | .lit _ => 1
  | .nil => 1
  | .ptr d => uptoBulk d + 1
  | .slice elems spare => uptoBulkAll elems + uptoBulkAll spare + 1
  | .agg parts => uptoBulkAll parts + 1
  | .iface _ d => uptoBulk d + 1
  | .map entries => uptoBulkEntries entries + 1
  | .held _ => 1
def uptoBulkAll {H : Type} : List (DataW H) → Nat
  | [] => 0
  | d :: r => uptoBulk d + uptoBulkAll r
def uptoBulkEntries {H : Type} : List (Lit × DataW H) → Nat
  | [] => 0
  | x :: r => uptoBulkEntry x + uptoBulkEntries r
def uptoBulkEntry {H : Type} : Lit × DataW H → Nat
  | (.string bytes, d) => bytes.length + uptoBulk d + 1
  | (_, d) => uptoBulk d + 1
 end
def uptoSmall : (H : Type) → List (DataW H) → Bool := fun _ ds => decide (uptoBulkAll ds ≤ 1048576)
def OpenSpec.upto (s : _root_.Go.ChangeSpec) : _root_.Go.OpenSpec := { _root_.Go.OpenSpec.ofChange s with cond := some uptoSmall }

/-- 'laws.FnSubset', WHERE WHAT IT READS IS OF BULK AT MOST 1048576: true; the input reads as it did. -/
def fnSubsetUptoRow : OpenClaim := { program := "ytllmbopajlfneaa", sum := "f9546b7cc0c285cda562ddc67a8e459b5e22bf932fb81098f8aa32eddc34e8af", func := "pub-sheafwork/laws.FnSubset", spec := "fnSubset", unfollowed := true, recurses := true, apart := false, narrowed := true }
def FnSubsetUptoSaid : Prop := fnSubsetUptoRow.holds Try.pinned (OpenSpec.upto fnSubsetSpec)

/-- 'laws.FnEnds', WHERE WHAT IT READS IS OF BULK AT MOST 1048576: true; the input reads as it did. -/
def fnEndsUptoRow : OpenClaim := { program := "ytllmbopajlfneaa", sum := "f9546b7cc0c285cda562ddc67a8e459b5e22bf932fb81098f8aa32eddc34e8af", func := "pub-sheafwork/laws.FnEnds", spec := "fnEnds", unfollowed := true, recurses := true, apart := false, narrowed := true }
def FnEndsUptoSaid : Prop := fnEndsUptoRow.holds Try.pinned (OpenSpec.upto fnEndsSpec)

/-- 'laws.FnFolds', WHERE WHAT IT READS IS OF BULK AT MOST 1048576: true; the input reads as it did. -/
def fnFoldsUptoRow : OpenClaim := { program := "ytllmbopajlfneaa", sum := "f9546b7cc0c285cda562ddc67a8e459b5e22bf932fb81098f8aa32eddc34e8af", func := "pub-sheafwork/laws.FnFolds", spec := "fnFolds", unfollowed := true, recurses := true, apart := false, narrowed := true }
def FnFoldsUptoSaid : Prop := fnFoldsUptoRow.holds Try.pinned (OpenSpec.upto fnFoldsSpec)

/-- 'laws.FnSums', WHERE WHAT IT READS IS OF BULK AT MOST 1048576: true; the input reads as it did. -/
def fnSumsUptoRow : OpenClaim := { program := "ytllmbopajlfneaa", sum := "f9546b7cc0c285cda562ddc67a8e459b5e22bf932fb81098f8aa32eddc34e8af", func := "pub-sheafwork/laws.FnSums", spec := "fnSums", unfollowed := true, recurses := true, apart := false, narrowed := true }
def FnSumsUptoSaid : Prop := fnSumsUptoRow.holds Try.pinned (OpenSpec.upto fnSumsSpec)

/-- 'laws.FnFilterMap', WHERE WHAT IT READS IS OF BULK AT MOST 1048576: true; the input reads as it did. -/
def fnFilterMapUptoRow : OpenClaim := { program := "ytllmbopajlfneaa", sum := "f9546b7cc0c285cda562ddc67a8e459b5e22bf932fb81098f8aa32eddc34e8af", func := "pub-sheafwork/laws.FnFilterMap", spec := "fnFilterMap", unfollowed := true, recurses := true, apart := false, narrowed := true }
def FnFilterMapUptoSaid : Prop := fnFilterMapUptoRow.holds Try.pinned (OpenSpec.upto fnFilterMapSpec)

/-- 'laws.FnCutEnds', WHERE WHAT IT READS IS OF BULK AT MOST 1048576: true; the input reads as it did. -/
def fnCutEndsUptoRow : OpenClaim := { program := "ytllmbopajlfneaa", sum := "f9546b7cc0c285cda562ddc67a8e459b5e22bf932fb81098f8aa32eddc34e8af", func := "pub-sheafwork/laws.FnCutEnds", spec := "fnCutEnds", unfollowed := true, recurses := true, apart := false, narrowed := true }
def FnCutEndsUptoSaid : Prop := fnCutEndsUptoRow.holds Try.pinned (OpenSpec.upto fnCutEndsSpec)

/-- 'laws.FnSplice', WHERE WHAT IT READS IS OF BULK AT MOST 1048576: true; the input reads as it did. -/
def fnSpliceUptoRow : OpenClaim := { program := "ytllmbopajlfneaa", sum := "f9546b7cc0c285cda562ddc67a8e459b5e22bf932fb81098f8aa32eddc34e8af", func := "pub-sheafwork/laws.FnSplice", spec := "fnSplice", unfollowed := true, recurses := true, apart := false, narrowed := true }
def FnSpliceUptoSaid : Prop := fnSpliceUptoRow.holds Try.pinned (OpenSpec.upto fnSpliceSpec)

/-- 'laws.FnMeans', WHERE WHAT IT READS IS OF BULK AT MOST 1048576: true; the input reads as it did. -/
def fnMeansUptoRow : OpenClaim := { program := "ytllmbopajlfneaa", sum := "f9546b7cc0c285cda562ddc67a8e459b5e22bf932fb81098f8aa32eddc34e8af", func := "pub-sheafwork/laws.FnMeans", spec := "fnMeans", unfollowed := true, recurses := true, apart := false, narrowed := true }
def FnMeansUptoSaid : Prop := fnMeansUptoRow.holds Try.pinned (OpenSpec.upto fnMeansSpec)

/-- 'laws.FnRanges', WHERE WHAT IT READS IS OF BULK AT MOST 1048576: true; the input reads as it did. -/
def fnRangesUptoRow : OpenClaim := { program := "ytllmbopajlfneaa", sum := "f9546b7cc0c285cda562ddc67a8e459b5e22bf932fb81098f8aa32eddc34e8af", func := "pub-sheafwork/laws.FnRanges", spec := "fnRanges", unfollowed := true, recurses := true, apart := false, narrowed := true }
def FnRangesUptoSaid : Prop := fnRangesUptoRow.holds Try.pinned (OpenSpec.upto fnRangesSpec)

/-- 'laws.FnRangeSteps', WHERE WHAT IT READS IS OF BULK AT MOST 1048576: true; the input reads as it did. -/
def fnRangeStepsUptoRow : OpenClaim := { program := "ytllmbopajlfneaa", sum := "f9546b7cc0c285cda562ddc67a8e459b5e22bf932fb81098f8aa32eddc34e8af", func := "pub-sheafwork/laws.FnRangeSteps", spec := "fnRangeSteps", inPlace := ["math.archCeil", "math.archFloor", "math.Float64bits", "math.Float64frombits", "math.archTrunc"], unfollowed := true, recurses := true, apart := false, narrowed := true }
def FnRangeStepsUptoSaid : Prop := fnRangeStepsUptoRow.holds Try.pinned (OpenSpec.upto fnRangeStepsSpec)

/-- 'laws.FnMatches', WHERE WHAT IT READS IS OF BULK AT MOST 1048576: true; the input reads as it did. -/
def fnMatchesUptoRow : OpenClaim := { program := "ytllmbopajlfneaa", sum := "f9546b7cc0c285cda562ddc67a8e459b5e22bf932fb81098f8aa32eddc34e8af", func := "pub-sheafwork/laws.FnMatches", spec := "fnMatches", unfollowed := true, recurses := true, apart := false, narrowed := true }
def FnMatchesUptoSaid : Prop := fnMatchesUptoRow.holds Try.pinned (OpenSpec.upto fnMatchesSpec)

/-- 'laws.FnCrossed', WHERE WHAT IT READS IS OF BULK AT MOST 1048576: true; the input reads as it did. -/
def fnCrossedUptoRow : OpenClaim := { program := "ytllmbopajlfneaa", sum := "f9546b7cc0c285cda562ddc67a8e459b5e22bf932fb81098f8aa32eddc34e8af", func := "pub-sheafwork/laws.FnCrossed", spec := "fnCrossed", unfollowed := true, recurses := true, apart := false, narrowed := true }
def FnCrossedUptoSaid : Prop := fnCrossedUptoRow.holds Try.pinned (OpenSpec.upto fnCrossedSpec)

end Rows
end Go.Proofs.Ytllmbopajlfneaa
