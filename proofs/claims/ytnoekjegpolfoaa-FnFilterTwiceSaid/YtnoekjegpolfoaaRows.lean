/-
  No cell of these rows narrows 'for every input' (looked for: loops, veiled, ifaces, maps, wideKeys, modest, calm, conditions, laid).
  DERIVED. THE GIVEN ROWS OF THIS SEAT. 9 by the template 'for every input the law returns true; each argument reads behind the call as it read before'; 0 by the template 'total and deterministic' (their statements: YtnoekjegpolfoaaTotals.lean).
  GIVEN WITH THE SEED: the statements are not yours to turn. If you find one false, say at which input.
  Laid BY PROGRAM, IN A SANDBOX (cutbox-rows.mjs): the forced cells as the released guide's own fill.sh prints them over the translation d2d3cc8ee132db22… (all of the seat's roots in one cut). By AI agents, Wed Nov 11 2026. No macro, syntax, notation, axiom, sorry.
-/
import Derived.Test.YtnoekjegpolfoaaChecked
import GoSem.Claim
import GoSem.ClaimJoined
import GoSem.ClaimMapViews
import Derived.JoinedTies
import Derived.KernelRfl
namespace Go.Proofs.Ytnoekjegpolfoaa
/- THE CELL 'sum', in the pinned program and in every row, IS THE sha256 OF THE DUMP (.gsa) THAT YtnoekjegpolfoaaProg.lean LOADS. Nothing in Lean hashes anything: it is a label: what it is worth is what the hold of that sum in a sandbox is worth. -/
noncomputable def Try.pinned : Pinned := { name := "ytnoekjegpolfoaa", sum := "d2d3cc8ee132db229a8242deb52194aaa0636917923601f047446ad509da9275", checked := Try.checked }
namespace Rows
def none {H : Type} : Left H := { results := [], args := [] }

/-- 'laws.FnSpliceAny': WHATEVER THE INPUT: true; the input reads as it did. -/
def fnSpliceAnySpec : ChangeSpec := { name := "fnSpliceAny", fn := fun _ => fun
  | [d1, d2, d3] => { results := [.lit (.bool true)], args := [d1, d2, d3] }
  | _ => none }
def fnSpliceAnyRow : OpenClaim := { program := "ytnoekjegpolfoaa", sum := "d2d3cc8ee132db229a8242deb52194aaa0636917923601f047446ad509da9275", func := "pub-sheafwork/laws.FnSpliceAny", spec := "fnSpliceAny", apart := false }
def FnSpliceAnySaid : Prop := fnSpliceAnyRow.holds Try.pinned (OpenSpec.ofChange fnSpliceAnySpec)

/-- ITS FALSE NEIGHBOUR: 'it returns false'. Refute it at one input. -/
def fnSpliceAnyWrong : ChangeSpec := { name := "fnSpliceAny", fn := fun _ => fun
  | [d1, d2, d3] => { results := [.lit (.bool false)], args := [d1, d2, d3] }
  | _ => none }
def FnSpliceAnyWrongFalsely : Prop := fnSpliceAnyRow.holds Try.pinned (OpenSpec.ofChange fnSpliceAnyWrong)

/-- 'laws.FnCut': WHATEVER THE INPUT: true; the input reads as it did. -/
def fnCutSpec : ChangeSpec := { name := "fnCut", fn := fun _ => fun
  | [d1, d2] => { results := [.lit (.bool true)], args := [d1, d2] }
  | _ => none }
def fnCutRow : OpenClaim := { program := "ytnoekjegpolfoaa", sum := "d2d3cc8ee132db229a8242deb52194aaa0636917923601f047446ad509da9275", func := "pub-sheafwork/laws.FnCut", spec := "fnCut", apart := false }
def FnCutSaid : Prop := fnCutRow.holds Try.pinned (OpenSpec.ofChange fnCutSpec)

/-- ITS FALSE NEIGHBOUR: 'it returns false'. Refute it at one input. -/
def fnCutWrong : ChangeSpec := { name := "fnCut", fn := fun _ => fun
  | [d1, d2] => { results := [.lit (.bool false)], args := [d1, d2] }
  | _ => none }
def FnCutWrongFalsely : Prop := fnCutRow.holds Try.pinned (OpenSpec.ofChange fnCutWrong)

/-- 'laws.FnInterleave': WHATEVER THE INPUT: true; the input reads as it did. -/
def fnInterleaveSpec : ChangeSpec := { name := "fnInterleave", fn := fun _ => fun
  | [d] => { results := [.lit (.bool true)], args := [d] }
  | _ => none }
def fnInterleaveRow : OpenClaim := { program := "ytnoekjegpolfoaa", sum := "d2d3cc8ee132db229a8242deb52194aaa0636917923601f047446ad509da9275", func := "pub-sheafwork/laws.FnInterleave", spec := "fnInterleave", apart := false }
def FnInterleaveSaid : Prop := fnInterleaveRow.holds Try.pinned (OpenSpec.ofChange fnInterleaveSpec)

/-- ITS FALSE NEIGHBOUR: 'it returns false'. Refute it at one input. -/
def fnInterleaveWrong : ChangeSpec := { name := "fnInterleave", fn := fun _ => fun
  | [d] => { results := [.lit (.bool false)], args := [d] }
  | _ => none }
def FnInterleaveWrongFalsely : Prop := fnInterleaveRow.holds Try.pinned (OpenSpec.ofChange fnInterleaveWrong)

/-- 'laws.FnFlatten': WHATEVER THE INPUT: true; the input reads as it did. -/
def fnFlattenSpec : ChangeSpec := { name := "fnFlatten", fn := fun _ => fun
  | [d1, d2] => { results := [.lit (.bool true)], args := [d1, d2] }
  | _ => none }
def fnFlattenRow : OpenClaim := { program := "ytnoekjegpolfoaa", sum := "d2d3cc8ee132db229a8242deb52194aaa0636917923601f047446ad509da9275", func := "pub-sheafwork/laws.FnFlatten", spec := "fnFlatten", unfollowed := true, recurses := true, apart := false }
def FnFlattenSaid : Prop := fnFlattenRow.holds Try.pinned (OpenSpec.ofChange fnFlattenSpec)

/-- ITS FALSE NEIGHBOUR: 'it returns false'. Refute it at one input. -/
def fnFlattenWrong : ChangeSpec := { name := "fnFlatten", fn := fun _ => fun
  | [d1, d2] => { results := [.lit (.bool false)], args := [d1, d2] }
  | _ => none }
def FnFlattenWrongFalsely : Prop := fnFlattenRow.holds Try.pinned (OpenSpec.ofChange fnFlattenWrong)

/-- 'laws.FnTurned': WHATEVER THE INPUT: true; the input reads as it did. -/
def fnTurnedSpec : ChangeSpec := { name := "fnTurned", fn := fun _ => fun
  | [d1, d2] => { results := [.lit (.bool true)], args := [d1, d2] }
  | _ => none }
def fnTurnedRow : OpenClaim := { program := "ytnoekjegpolfoaa", sum := "d2d3cc8ee132db229a8242deb52194aaa0636917923601f047446ad509da9275", func := "pub-sheafwork/laws.FnTurned", spec := "fnTurned", unfollowed := true, recurses := true, apart := false }
def FnTurnedSaid : Prop := fnTurnedRow.holds Try.pinned (OpenSpec.ofChange fnTurnedSpec)

/-- ITS FALSE NEIGHBOUR: 'it returns false'. Refute it at one input. -/
def fnTurnedWrong : ChangeSpec := { name := "fnTurned", fn := fun _ => fun
  | [d1, d2] => { results := [.lit (.bool false)], args := [d1, d2] }
  | _ => none }
def FnTurnedWrongFalsely : Prop := fnTurnedRow.holds Try.pinned (OpenSpec.ofChange fnTurnedWrong)

/-- 'laws.FnFilterTwice': WHATEVER THE INPUT: true; the input reads as it did. -/
def fnFilterTwiceSpec : ChangeSpec := { name := "fnFilterTwice", fn := fun _ => fun
  | [d1, d2, d3] => { results := [.lit (.bool true)], args := [d1, d2, d3] }
  | _ => none }
def fnFilterTwiceRow : OpenClaim := { program := "ytnoekjegpolfoaa", sum := "d2d3cc8ee132db229a8242deb52194aaa0636917923601f047446ad509da9275", func := "pub-sheafwork/laws.FnFilterTwice", spec := "fnFilterTwice", unfollowed := true, recurses := true, apart := false }
def FnFilterTwiceSaid : Prop := fnFilterTwiceRow.holds Try.pinned (OpenSpec.ofChange fnFilterTwiceSpec)

/-- ITS FALSE NEIGHBOUR: 'it returns false'. Refute it at one input. -/
def fnFilterTwiceWrong : ChangeSpec := { name := "fnFilterTwice", fn := fun _ => fun
  | [d1, d2, d3] => { results := [.lit (.bool false)], args := [d1, d2, d3] }
  | _ => none }
def FnFilterTwiceWrongFalsely : Prop := fnFilterTwiceRow.holds Try.pinned (OpenSpec.ofChange fnFilterTwiceWrong)

/-- 'laws.FnReplaced': WHATEVER THE INPUT: true; the input reads as it did. -/
def fnReplacedSpec : ChangeSpec := { name := "fnReplaced", fn := fun _ => fun
  | [d1, d2, d3, d4] => { results := [.lit (.bool true)], args := [d1, d2, d3, d4] }
  | _ => none }
def fnReplacedRow : OpenClaim := { program := "ytnoekjegpolfoaa", sum := "d2d3cc8ee132db229a8242deb52194aaa0636917923601f047446ad509da9275", func := "pub-sheafwork/laws.FnReplaced", spec := "fnReplaced", unfollowed := true, recurses := true, apart := false }
def FnReplacedSaid : Prop := fnReplacedRow.holds Try.pinned (OpenSpec.ofChange fnReplacedSpec)

/-- ITS FALSE NEIGHBOUR: 'it returns false'. Refute it at one input. -/
def fnReplacedWrong : ChangeSpec := { name := "fnReplaced", fn := fun _ => fun
  | [d1, d2, d3, d4] => { results := [.lit (.bool false)], args := [d1, d2, d3, d4] }
  | _ => none }
def FnReplacedWrongFalsely : Prop := fnReplacedRow.holds Try.pinned (OpenSpec.ofChange fnReplacedWrong)

/-- 'laws.FnWindows': WHATEVER THE INPUT: true; the input reads as it did. -/
def fnWindowsSpec : ChangeSpec := { name := "fnWindows", fn := fun _ => fun
  | [d1, d2, d3] => { results := [.lit (.bool true)], args := [d1, d2, d3] }
  | _ => none }
def fnWindowsRow : OpenClaim := { program := "ytnoekjegpolfoaa", sum := "d2d3cc8ee132db229a8242deb52194aaa0636917923601f047446ad509da9275", func := "pub-sheafwork/laws.FnWindows", spec := "fnWindows", unfollowed := true, recurses := true, apart := false }
def FnWindowsSaid : Prop := fnWindowsRow.holds Try.pinned (OpenSpec.ofChange fnWindowsSpec)

/-- ITS FALSE NEIGHBOUR: 'it returns false'. Refute it at one input. -/
def fnWindowsWrong : ChangeSpec := { name := "fnWindows", fn := fun _ => fun
  | [d1, d2, d3] => { results := [.lit (.bool false)], args := [d1, d2, d3] }
  | _ => none }
def FnWindowsWrongFalsely : Prop := fnWindowsRow.holds Try.pinned (OpenSpec.ofChange fnWindowsWrong)

/-- 'laws.FnChunks': WHATEVER THE INPUT: true; the input reads as it did. -/
def fnChunksSpec : ChangeSpec := { name := "fnChunks", fn := fun _ => fun
  | [d1, d2] => { results := [.lit (.bool true)], args := [d1, d2] }
  | _ => none }
def fnChunksRow : OpenClaim := { program := "ytnoekjegpolfoaa", sum := "d2d3cc8ee132db229a8242deb52194aaa0636917923601f047446ad509da9275", func := "pub-sheafwork/laws.FnChunks", spec := "fnChunks", unfollowed := true, recurses := true, apart := false }
def FnChunksSaid : Prop := fnChunksRow.holds Try.pinned (OpenSpec.ofChange fnChunksSpec)

/-- ITS FALSE NEIGHBOUR: 'it returns false'. Refute it at one input. -/
def fnChunksWrong : ChangeSpec := { name := "fnChunks", fn := fun _ => fun
  | [d1, d2] => { results := [.lit (.bool false)], args := [d1, d2] }
  | _ => none }
def FnChunksWrongFalsely : Prop := fnChunksRow.holds Try.pinned (OpenSpec.ofChange fnChunksWrong)

/- THE SECOND FORM. 'bulk': how many values and letters a reading holds, each counted each time it is reached (what is shared counts as often as it is met; a slice's spare places count too). A statement '..UptoSaid' is the law's where the arguments, and the package variables that the reading takes, are together of bulk at most 1048576: NARROWER than '..Said'. Prove '..Said' where nothing that the law and all that it calls make is longer than what came in: it says more and counts as full. Else prove '..UptoSaid'. A law counts once. -/
mutual
def uptoBulk {H : Type} : DataW H → Nat
  | .lit (.string bytes) => bytes.length + 1
  | .lit _ => 1
  | .nil => 1
  | .ptr d => uptoBulk d + 1
  | .slice elems spare => uptoBulkAll elems + uptoBulkAll spare + 1
  | .agg parts => uptoBulkAll parts + 1
  | .iface _ d => uptoBulk d + 1
  | .map entries => uptoBulkEntries entries + 1
  | .held _ => 1
def uptoBulkAll {H : Type} : List (DataW H) → Nat
  | [] => 0
  | d :: r => uptoBulk d + uptoBulkAll r
def uptoBulkEntries {H : Type} : List (Lit × DataW H) → Nat
  | [] => 0
  | x :: r => uptoBulkEntry x + uptoBulkEntries r
def uptoBulkEntry {H : Type} : Lit × DataW H → Nat
  | (.string bytes, d) => bytes.length + uptoBulk d + 1
  | (_, d) => uptoBulk d + 1
 end
def uptoSmall : (H : Type) → List (DataW H) → Bool := fun _ ds => decide (uptoBulkAll ds ≤ 1048576)
def OpenSpec.upto (s : _root_.Go.ChangeSpec) : _root_.Go.OpenSpec := { _root_.Go.OpenSpec.ofChange s with cond := some uptoSmall }

/-- 'laws.FnSpliceAny', WHERE WHAT IT READS IS OF BULK AT MOST 1048576: true; the input reads as it did. -/
def fnSpliceAnyUptoRow : OpenClaim := { program := "ytnoekjegpolfoaa", sum := "d2d3cc8ee132db229a8242deb52194aaa0636917923601f047446ad509da9275", func := "pub-sheafwork/laws.FnSpliceAny", spec := "fnSpliceAny", apart := false, narrowed := true }
def FnSpliceAnyUptoSaid : Prop := fnSpliceAnyUptoRow.holds Try.pinned (OpenSpec.upto fnSpliceAnySpec)

/-- 'laws.FnCut', WHERE WHAT IT READS IS OF BULK AT MOST 1048576: true; the input reads as it did. -/
def fnCutUptoRow : OpenClaim := { program := "ytnoekjegpolfoaa", sum := "d2d3cc8ee132db229a8242deb52194aaa0636917923601f047446ad509da9275", func := "pub-sheafwork/laws.FnCut", spec := "fnCut", apart := false, narrowed := true }
def FnCutUptoSaid : Prop := fnCutUptoRow.holds Try.pinned (OpenSpec.upto fnCutSpec)

/-- 'laws.FnInterleave', WHERE WHAT IT READS IS OF BULK AT MOST 1048576: true; the input reads as it did. -/
def fnInterleaveUptoRow : OpenClaim := { program := "ytnoekjegpolfoaa", sum := "d2d3cc8ee132db229a8242deb52194aaa0636917923601f047446ad509da9275", func := "pub-sheafwork/laws.FnInterleave", spec := "fnInterleave", apart := false, narrowed := true }
def FnInterleaveUptoSaid : Prop := fnInterleaveUptoRow.holds Try.pinned (OpenSpec.upto fnInterleaveSpec)

/-- 'laws.FnFlatten', WHERE WHAT IT READS IS OF BULK AT MOST 1048576: true; the input reads as it did. -/
def fnFlattenUptoRow : OpenClaim := { program := "ytnoekjegpolfoaa", sum := "d2d3cc8ee132db229a8242deb52194aaa0636917923601f047446ad509da9275", func := "pub-sheafwork/laws.FnFlatten", spec := "fnFlatten", unfollowed := true, recurses := true, apart := false, narrowed := true }
def FnFlattenUptoSaid : Prop := fnFlattenUptoRow.holds Try.pinned (OpenSpec.upto fnFlattenSpec)

/-- 'laws.FnTurned', WHERE WHAT IT READS IS OF BULK AT MOST 1048576: true; the input reads as it did. -/
def fnTurnedUptoRow : OpenClaim := { program := "ytnoekjegpolfoaa", sum := "d2d3cc8ee132db229a8242deb52194aaa0636917923601f047446ad509da9275", func := "pub-sheafwork/laws.FnTurned", spec := "fnTurned", unfollowed := true, recurses := true, apart := false, narrowed := true }
def FnTurnedUptoSaid : Prop := fnTurnedUptoRow.holds Try.pinned (OpenSpec.upto fnTurnedSpec)

/-- 'laws.FnFilterTwice', WHERE WHAT IT READS IS OF BULK AT MOST 1048576: true; the input reads as it did. -/
def fnFilterTwiceUptoRow : OpenClaim := { program := "ytnoekjegpolfoaa", sum := "d2d3cc8ee132db229a8242deb52194aaa0636917923601f047446ad509da9275", func := "pub-sheafwork/laws.FnFilterTwice", spec := "fnFilterTwice", unfollowed := true, recurses := true, apart := false, narrowed := true }
def FnFilterTwiceUptoSaid : Prop := fnFilterTwiceUptoRow.holds Try.pinned (OpenSpec.upto fnFilterTwiceSpec)

/-- 'laws.FnReplaced', WHERE WHAT IT READS IS OF BULK AT MOST 1048576: true; the input reads as it did. -/
def fnReplacedUptoRow : OpenClaim := { program := "ytnoekjegpolfoaa", sum := "d2d3cc8ee132db229a8242deb52194aaa0636917923601f047446ad509da9275", func := "pub-sheafwork/laws.FnReplaced", spec := "fnReplaced", unfollowed := true, recurses := true, apart := false, narrowed := true }
def FnReplacedUptoSaid : Prop := fnReplacedUptoRow.holds Try.pinned (OpenSpec.upto fnReplacedSpec)

/-- 'laws.FnWindows', WHERE WHAT IT READS IS OF BULK AT MOST 1048576: true; the input reads as it did. -/
def fnWindowsUptoRow : OpenClaim := { program := "ytnoekjegpolfoaa", sum := "d2d3cc8ee132db229a8242deb52194aaa0636917923601f047446ad509da9275", func := "pub-sheafwork/laws.FnWindows", spec := "fnWindows", unfollowed := true, recurses := true, apart := false, narrowed := true }
def FnWindowsUptoSaid : Prop := fnWindowsUptoRow.holds Try.pinned (OpenSpec.upto fnWindowsSpec)

/-- 'laws.FnChunks', WHERE WHAT IT READS IS OF BULK AT MOST 1048576: true; the input reads as it did. -/
def fnChunksUptoRow : OpenClaim := { program := "ytnoekjegpolfoaa", sum := "d2d3cc8ee132db229a8242deb52194aaa0636917923601f047446ad509da9275", func := "pub-sheafwork/laws.FnChunks", spec := "fnChunks", unfollowed := true, recurses := true, apart := false, narrowed := true }
def FnChunksUptoSaid : Prop := fnChunksUptoRow.holds Try.pinned (OpenSpec.upto fnChunksSpec)

end Rows
end Go.Proofs.Ytnoekjegpolfoaa
