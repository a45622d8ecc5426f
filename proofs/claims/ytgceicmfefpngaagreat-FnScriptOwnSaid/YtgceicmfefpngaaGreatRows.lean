/-
  No cell of these rows narrows 'for every input' (looked for: loops, veiled, ifaces, maps, wideKeys, modest, calm, conditions, laid).
  DERIVED. THE GIVEN ROWS OF THIS SEAT. 3 by the template 'for every input the law returns true; each argument reads behind the call as it read before'; 0 by the template 'total and deterministic' (their statements: YtgceicmfefpngaaGreatTotals.lean).
  GIVEN WITH THE SEED: the statements are not yours to turn. If you find one false, say at which input.
  Laid BY PROGRAM, IN A SANDBOX (cutbox-rows.mjs): the forced cells as the released guide's own fill.sh prints them over the translation 923f7d03a60e82f5… (all of the seat's roots in one cut). By AI agents, Wed Nov 11 2026. No macro, syntax, notation, axiom, sorry.
-/
import Derived.Test.YtgceicmfefpngaaGreatChecked
import GoSem.Claim
import GoSem.ClaimJoined
import GoSem.ClaimMapViews
import Derived.JoinedTies
import Derived.KernelRfl
namespace Go.Proofs.YtgceicmfefpngaaGreat
/- THE CELL 'sum', in the pinned program and in every row, IS THE sha256 OF THE DUMP (.gsa) THAT YtgceicmfefpngaaGreatProg.lean LOADS. Nothing in Lean hashes anything: it is a label: what it is worth is what the hold of that sum in a sandbox is worth. -/
noncomputable def Tryz.pinned : Pinned := { name := "ytgceicmfefpngaagreat", sum := "923f7d03a60e82f50a40fcfcd0d5ac700b567937cb18a702c9f19103c3702995", checked := Tryz.checked }
namespace Rows
def none {H : Type} : Left H := { results := [], args := [] }

/-- 'laws.FnScript': WHATEVER THE INPUT: true; the input reads as it did. -/
def fnScriptSpec : ChangeSpec := { name := "fnScript", fn := fun _ => fun
  | [d1, d2] => { results := [.lit (.bool true)], args := [d1, d2] }
  | _ => none }
def fnScriptRow : OpenClaim := { program := "ytgceicmfefpngaagreat", sum := "923f7d03a60e82f50a40fcfcd0d5ac700b567937cb18a702c9f19103c3702995", func := "pub-sheafwork/laws.FnScript", spec := "fnScript", unfollowed := true, recurses := true, apart := false }
def FnScriptSaid : Prop := fnScriptRow.holds Tryz.pinned (OpenSpec.ofChange fnScriptSpec)

/-- ITS FALSE NEIGHBOUR: 'it returns false'. Refute it at one input. -/
def fnScriptWrong : ChangeSpec := { name := "fnScript", fn := fun _ => fun
  | [d1, d2] => { results := [.lit (.bool false)], args := [d1, d2] }
  | _ => none }
def FnScriptWrongFalsely : Prop := fnScriptRow.holds Tryz.pinned (OpenSpec.ofChange fnScriptWrong)

/-- 'laws.FnScriptOwn': WHATEVER THE INPUT: true; the input reads as it did. -/
def fnScriptOwnSpec : ChangeSpec := { name := "fnScriptOwn", fn := fun _ => fun
  | [d1, d2] => { results := [.lit (.bool true)], args := [d1, d2] }
  | _ => none }
def fnScriptOwnRow : OpenClaim := { program := "ytgceicmfefpngaagreat", sum := "923f7d03a60e82f50a40fcfcd0d5ac700b567937cb18a702c9f19103c3702995", func := "pub-sheafwork/laws.FnScriptOwn", spec := "fnScriptOwn", unfollowed := true, recurses := true, apart := false }
def FnScriptOwnSaid : Prop := fnScriptOwnRow.holds Tryz.pinned (OpenSpec.ofChange fnScriptOwnSpec)

/-- ITS FALSE NEIGHBOUR: 'it returns false'. Refute it at one input. -/
def fnScriptOwnWrong : ChangeSpec := { name := "fnScriptOwn", fn := fun _ => fun
  | [d1, d2] => { results := [.lit (.bool false)], args := [d1, d2] }
  | _ => none }
def FnScriptOwnWrongFalsely : Prop := fnScriptOwnRow.holds Tryz.pinned (OpenSpec.ofChange fnScriptOwnWrong)

/-- 'laws.FnScriptTwins': WHATEVER THE INPUT: true; the input reads as it did. -/
def fnScriptTwinsSpec : ChangeSpec := { name := "fnScriptTwins", fn := fun _ => fun
  | [d1, d2] => { results := [.lit (.bool true)], args := [d1, d2] }
  | _ => none }
def fnScriptTwinsRow : OpenClaim := { program := "ytgceicmfefpngaagreat", sum := "923f7d03a60e82f50a40fcfcd0d5ac700b567937cb18a702c9f19103c3702995", func := "pub-sheafwork/laws.FnScriptTwins", spec := "fnScriptTwins", unfollowed := true, recurses := true, apart := false }
def FnScriptTwinsSaid : Prop := fnScriptTwinsRow.holds Tryz.pinned (OpenSpec.ofChange fnScriptTwinsSpec)

/-- ITS FALSE NEIGHBOUR: 'it returns false'. Refute it at one input. -/
def fnScriptTwinsWrong : ChangeSpec := { name := "fnScriptTwins", fn := fun _ => fun
  | [d1, d2] => { results := [.lit (.bool false)], args := [d1, d2] }
  | _ => none }
def FnScriptTwinsWrongFalsely : Prop := fnScriptTwinsRow.holds Tryz.pinned (OpenSpec.ofChange fnScriptTwinsWrong)

/- THE SECOND FORM. 'bulk': how many values and letters a reading holds, each counted each time it is reached (what is shared counts as often as it is met; a slice's spare places count too). A statement '..UptoSaid' is the law's where the arguments, and the package variables that the reading takes, are together of bulk at most 1048576: NARROWER than '..Said'. Prove '..Said' where nothing that the law and all that it calls make is longer than what came in: it says more and counts as full. Else prove '..UptoSaid'. A law counts once. -/
mutual
def uptoBulk {H : Type} : DataW H → Nat
  | .lit (.string bytes) => bytes.length + 1
  | .lit _ => 1
  | .nil => 1
  | .ptr d => uptoBulk d + 1
  | .slice elems spare => uptoBulkAll elems + uptoBulkAll spare + 1
  | .agg parts => uptoBulkAll parts + 1
  | .iface _ d => uptoBulk d + 1
  | .map entries => uptoBulkEntries entries + 1
  | .held _ => 1
def uptoBulkAll {H : Type} : List (DataW H) → Nat
  | [] => 0
  | d :: r => uptoBulk d + uptoBulkAll r
def uptoBulkEntries {H : Type} : List (Lit × DataW H) → Nat
  | [] => 0
  | x :: r => uptoBulkEntry x + uptoBulkEntries r
def uptoBulkEntry {H : Type} : Lit × DataW H → Nat
  | (.string bytes, d) => bytes.length + uptoBulk d + 1
  | (_, d) => uptoBulk d + 1
 end
def uptoSmall : (H : Type) → List (DataW H) → Bool := fun _ ds => decide (uptoBulkAll ds ≤ 1048576)
def OpenSpec.upto (s : _root_.Go.ChangeSpec) : _root_.Go.OpenSpec := { _root_.Go.OpenSpec.ofChange s with cond := some uptoSmall }

/-- 'laws.FnScript', WHERE WHAT IT READS IS OF BULK AT MOST 1048576: true; the input reads as it did. -/
def fnScriptUptoRow : OpenClaim := { program := "ytgceicmfefpngaagreat", sum := "923f7d03a60e82f50a40fcfcd0d5ac700b567937cb18a702c9f19103c3702995", func := "pub-sheafwork/laws.FnScript", spec := "fnScript", unfollowed := true, recurses := true, apart := false, narrowed := true }
def FnScriptUptoSaid : Prop := fnScriptUptoRow.holds Tryz.pinned (OpenSpec.upto fnScriptSpec)

/-- 'laws.FnScriptOwn', WHERE WHAT IT READS IS OF BULK AT MOST 1048576: true; the input reads as it did. -/
def fnScriptOwnUptoRow : OpenClaim := { program := "ytgceicmfefpngaagreat", sum := "923f7d03a60e82f50a40fcfcd0d5ac700b567937cb18a702c9f19103c3702995", func := "pub-sheafwork/laws.FnScriptOwn", spec := "fnScriptOwn", unfollowed := true, recurses := true, apart := false, narrowed := true }
def FnScriptOwnUptoSaid : Prop := fnScriptOwnUptoRow.holds Tryz.pinned (OpenSpec.upto fnScriptOwnSpec)

/-- 'laws.FnScriptTwins', WHERE WHAT IT READS IS OF BULK AT MOST 1048576: true; the input reads as it did. -/
def fnScriptTwinsUptoRow : OpenClaim := { program := "ytgceicmfefpngaagreat", sum := "923f7d03a60e82f50a40fcfcd0d5ac700b567937cb18a702c9f19103c3702995", func := "pub-sheafwork/laws.FnScriptTwins", spec := "fnScriptTwins", unfollowed := true, recurses := true, apart := false, narrowed := true }
def FnScriptTwinsUptoSaid : Prop := fnScriptTwinsUptoRow.holds Tryz.pinned (OpenSpec.upto fnScriptTwinsSpec)

end Rows
end Go.Proofs.YtgceicmfefpngaaGreat
