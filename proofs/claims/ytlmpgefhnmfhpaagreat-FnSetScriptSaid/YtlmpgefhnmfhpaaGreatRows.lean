/-
  No cell of these rows narrows 'for every input' (looked for: loops, veiled, ifaces, maps, wideKeys, modest, calm, conditions, laid).
  DERIVED. THE GIVEN ROWS OF THIS SEAT. 7 by the template 'for every input the law returns true; each argument reads behind the call as it read before'; 0 by the template 'total and deterministic' (their statements: YtlmpgefhnmfhpaaGreatTotals.lean).
  GIVEN WITH THE SEED: the statements are not yours to turn. If you find one false, say at which input.
  Laid BY PROGRAM, IN A SANDBOX (cutbox-rows.mjs): the forced cells as the released guide's own fill.sh prints them over the translation 63f0b44b14fb98ef… (all of the seat's roots in one cut). By AI agents, Wed Nov 11 2026. No macro, syntax, notation, axiom, sorry.
-/
import Derived.Test.YtlmpgefhnmfhpaaGreatChecked
import GoSem.Claim
import GoSem.ClaimJoined
import GoSem.ClaimMapViews
import Derived.JoinedTies
import Derived.KernelRfl
namespace Go.Proofs.YtlmpgefhnmfhpaaGreat
/- THE CELL 'sum', in the pinned program and in every row, IS THE sha256 OF THE DUMP (.gsa) THAT YtlmpgefhnmfhpaaGreatProg.lean LOADS. Nothing in Lean hashes anything: it is a label: what it is worth is what the hold of that sum in a sandbox is worth. -/
noncomputable def Tryz.pinned : Pinned := { name := "ytlmpgefhnmfhpaagreat", sum := "63f0b44b14fb98ef63349b7f76297059e2ae78e77f9f3f1b72ae5a11e6b32971", checked := Tryz.checked }
namespace Rows
def none {H : Type} : Left H := { results := [], args := [] }

/-- 'laws.FnSetLaws': WHATEVER THE INPUT: true; the input reads as it did. -/
def fnSetLawsSpec : ChangeSpec := { name := "fnSetLaws", fn := fun _ => fun
  | [d1, d2, d3, d4] => { results := [.lit (.bool true)], args := [d1, d2, d3, d4] }
  | _ => none }
def fnSetLawsRow : OpenClaim := { program := "ytlmpgefhnmfhpaagreat", sum := "63f0b44b14fb98ef63349b7f76297059e2ae78e77f9f3f1b72ae5a11e6b32971", func := "pub-sheafwork/laws.FnSetLaws", spec := "fnSetLaws", inPlace := ["(*sync.RWMutex).Lock", "internal/race.Read", "internal/race.Disable", "(*internal/sync.Mutex).Lock", "sync/atomic.CompareAndSwapInt32", "internal/race.Enable", "internal/race.Acquire", "(*internal/sync.Mutex).lockSlow", "internal/sync.runtime_canSpin", "internal/sync.runtime_doSpin", "internal/sync.throw", "internal/sync.runtime_nanotime", "internal/sync.runtime_SemacquireMutex", "sync/atomic.AddInt32", "sync.runtime_SemacquireRWMutex", "(*sync.RWMutex).Unlock", "internal/race.Release", "internal/race.ReleaseMerge", "sync.fatal", "sync.runtime_Semrelease", "(*internal/sync.Mutex).Unlock", "(*internal/sync.Mutex).unlockSlow", "internal/sync.fatal", "internal/sync.runtime_Semrelease"], unfollowed := true, recurses := true, apart := false }
def FnSetLawsSaid : Prop := fnSetLawsRow.holds Tryz.pinned (OpenSpec.ofChange fnSetLawsSpec)

/-- ITS FALSE NEIGHBOUR: 'it returns false'. Refute it at one input. -/
def fnSetLawsWrong : ChangeSpec := { name := "fnSetLaws", fn := fun _ => fun
  | [d1, d2, d3, d4] => { results := [.lit (.bool false)], args := [d1, d2, d3, d4] }
  | _ => none }
def FnSetLawsWrongFalsely : Prop := fnSetLawsRow.holds Tryz.pinned (OpenSpec.ofChange fnSetLawsWrong)

/-- 'laws.FnSetRelations': WHATEVER THE INPUT: true; the input reads as it did. -/
def fnSetRelationsSpec : ChangeSpec := { name := "fnSetRelations", fn := fun _ => fun
  | [d1, d2, d3] => { results := [.lit (.bool true)], args := [d1, d2, d3] }
  | _ => none }
def fnSetRelationsRow : OpenClaim := { program := "ytlmpgefhnmfhpaagreat", sum := "63f0b44b14fb98ef63349b7f76297059e2ae78e77f9f3f1b72ae5a11e6b32971", func := "pub-sheafwork/laws.FnSetRelations", spec := "fnSetRelations", inPlace := ["(*sync.RWMutex).Lock", "internal/race.Read", "internal/race.Disable", "(*internal/sync.Mutex).Lock", "sync/atomic.CompareAndSwapInt32", "internal/race.Enable", "internal/race.Acquire", "(*internal/sync.Mutex).lockSlow", "internal/sync.runtime_canSpin", "internal/sync.runtime_doSpin", "internal/sync.throw", "internal/sync.runtime_nanotime", "internal/sync.runtime_SemacquireMutex", "sync/atomic.AddInt32", "sync.runtime_SemacquireRWMutex", "(*sync.RWMutex).Unlock", "internal/race.Release", "internal/race.ReleaseMerge", "sync.fatal", "sync.runtime_Semrelease", "(*internal/sync.Mutex).Unlock", "(*internal/sync.Mutex).unlockSlow", "internal/sync.fatal", "internal/sync.runtime_Semrelease"], unfollowed := true, recurses := true, apart := false }
def FnSetRelationsSaid : Prop := fnSetRelationsRow.holds Tryz.pinned (OpenSpec.ofChange fnSetRelationsSpec)

/-- ITS FALSE NEIGHBOUR: 'it returns false'. Refute it at one input. -/
def fnSetRelationsWrong : ChangeSpec := { name := "fnSetRelations", fn := fun _ => fun
  | [d1, d2, d3] => { results := [.lit (.bool false)], args := [d1, d2, d3] }
  | _ => none }
def FnSetRelationsWrongFalsely : Prop := fnSetRelationsRow.holds Tryz.pinned (OpenSpec.ofChange fnSetRelationsWrong)

/-- 'laws.FnSetKinds': WHATEVER THE INPUT: true; the input reads as it did. -/
def fnSetKindsSpec : ChangeSpec := { name := "fnSetKinds", fn := fun _ => fun
  | [d] => { results := [.lit (.bool true)], args := [d] }
  | _ => none }
def fnSetKindsRow : OpenClaim := { program := "ytlmpgefhnmfhpaagreat", sum := "63f0b44b14fb98ef63349b7f76297059e2ae78e77f9f3f1b72ae5a11e6b32971", func := "pub-sheafwork/laws.FnSetKinds", spec := "fnSetKinds", inPlace := ["(*sync.RWMutex).Lock", "internal/race.Read", "internal/race.Disable", "(*internal/sync.Mutex).Lock", "sync/atomic.CompareAndSwapInt32", "internal/race.Enable", "internal/race.Acquire", "(*internal/sync.Mutex).lockSlow", "internal/sync.runtime_canSpin", "internal/sync.runtime_doSpin", "internal/sync.throw", "internal/sync.runtime_nanotime", "internal/sync.runtime_SemacquireMutex", "sync/atomic.AddInt32", "sync.runtime_SemacquireRWMutex", "(*sync.RWMutex).Unlock", "internal/race.Release", "internal/race.ReleaseMerge", "sync.fatal", "sync.runtime_Semrelease", "(*internal/sync.Mutex).Unlock", "(*internal/sync.Mutex).unlockSlow", "internal/sync.fatal", "internal/sync.runtime_Semrelease"], unfollowed := true, recurses := true, apart := false }
def FnSetKindsSaid : Prop := fnSetKindsRow.holds Tryz.pinned (OpenSpec.ofChange fnSetKindsSpec)

/-- ITS FALSE NEIGHBOUR: 'it returns false'. Refute it at one input. -/
def fnSetKindsWrong : ChangeSpec := { name := "fnSetKinds", fn := fun _ => fun
  | [d] => { results := [.lit (.bool false)], args := [d] }
  | _ => none }
def FnSetKindsWrongFalsely : Prop := fnSetKindsRow.holds Tryz.pinned (OpenSpec.ofChange fnSetKindsWrong)

/-- 'laws.FnSetScript': WHATEVER THE INPUT: true; the input reads as it did. -/
def fnSetScriptSpec : ChangeSpec := { name := "fnSetScript", fn := fun _ => fun
  | [d1, d2] => { results := [.lit (.bool true)], args := [d1, d2] }
  | _ => none }
def fnSetScriptRow : OpenClaim := { program := "ytlmpgefhnmfhpaagreat", sum := "63f0b44b14fb98ef63349b7f76297059e2ae78e77f9f3f1b72ae5a11e6b32971", func := "pub-sheafwork/laws.FnSetScript", spec := "fnSetScript", inPlace := ["(*sync.RWMutex).Lock", "internal/race.Read", "internal/race.Disable", "(*internal/sync.Mutex).Lock", "sync/atomic.CompareAndSwapInt32", "internal/race.Enable", "internal/race.Acquire", "(*internal/sync.Mutex).lockSlow", "internal/sync.runtime_canSpin", "internal/sync.runtime_doSpin", "internal/sync.throw", "internal/sync.runtime_nanotime", "internal/sync.runtime_SemacquireMutex", "sync/atomic.AddInt32", "sync.runtime_SemacquireRWMutex", "(*sync.RWMutex).Unlock", "internal/race.Release", "internal/race.ReleaseMerge", "sync.fatal", "sync.runtime_Semrelease", "(*internal/sync.Mutex).Unlock", "(*internal/sync.Mutex).unlockSlow", "internal/sync.fatal", "internal/sync.runtime_Semrelease"], unfollowed := true, recurses := true, apart := false }
def FnSetScriptSaid : Prop := fnSetScriptRow.holds Tryz.pinned (OpenSpec.ofChange fnSetScriptSpec)

/-- ITS FALSE NEIGHBOUR: 'it returns false'. Refute it at one input. -/
def fnSetScriptWrong : ChangeSpec := { name := "fnSetScript", fn := fun _ => fun
  | [d1, d2] => { results := [.lit (.bool false)], args := [d1, d2] }
  | _ => none }
def FnSetScriptWrongFalsely : Prop := fnSetScriptRow.holds Tryz.pinned (OpenSpec.ofChange fnSetScriptWrong)

/-- 'laws.FnSetsApart': WHATEVER THE INPUT: true; the input reads as it did. -/
def fnSetsApartSpec : ChangeSpec := { name := "fnSetsApart", fn := fun _ => fun
  | [d1, d2, d3, d4] => { results := [.lit (.bool true)], args := [d1, d2, d3, d4] }
  | _ => none }
def fnSetsApartRow : OpenClaim := { program := "ytlmpgefhnmfhpaagreat", sum := "63f0b44b14fb98ef63349b7f76297059e2ae78e77f9f3f1b72ae5a11e6b32971", func := "pub-sheafwork/laws.FnSetsApart", spec := "fnSetsApart", inPlace := ["(*sync.RWMutex).Lock", "internal/race.Read", "internal/race.Disable", "(*internal/sync.Mutex).Lock", "sync/atomic.CompareAndSwapInt32", "internal/race.Enable", "internal/race.Acquire", "(*internal/sync.Mutex).lockSlow", "internal/sync.runtime_canSpin", "internal/sync.runtime_doSpin", "internal/sync.throw", "internal/sync.runtime_nanotime", "internal/sync.runtime_SemacquireMutex", "sync/atomic.AddInt32", "sync.runtime_SemacquireRWMutex", "(*sync.RWMutex).Unlock", "internal/race.Release", "internal/race.ReleaseMerge", "sync.fatal", "sync.runtime_Semrelease", "(*internal/sync.Mutex).Unlock", "(*internal/sync.Mutex).unlockSlow", "internal/sync.fatal", "internal/sync.runtime_Semrelease"], unfollowed := true, recurses := true, apart := false }
def FnSetsApartSaid : Prop := fnSetsApartRow.holds Tryz.pinned (OpenSpec.ofChange fnSetsApartSpec)

/-- ITS FALSE NEIGHBOUR: 'it returns false'. Refute it at one input. -/
def fnSetsApartWrong : ChangeSpec := { name := "fnSetsApart", fn := fun _ => fun
  | [d1, d2, d3, d4] => { results := [.lit (.bool false)], args := [d1, d2, d3, d4] }
  | _ => none }
def FnSetsApartWrongFalsely : Prop := fnSetsApartRow.holds Tryz.pinned (OpenSpec.ofChange fnSetsApartWrong)

/-- 'laws.FnSetGrows': WHATEVER THE INPUT: true; the input reads as it did. -/
def fnSetGrowsSpec : ChangeSpec := { name := "fnSetGrows", fn := fun _ => fun
  | [d1, d2, d3] => { results := [.lit (.bool true)], args := [d1, d2, d3] }
  | _ => none }
def fnSetGrowsRow : OpenClaim := { program := "ytlmpgefhnmfhpaagreat", sum := "63f0b44b14fb98ef63349b7f76297059e2ae78e77f9f3f1b72ae5a11e6b32971", func := "pub-sheafwork/laws.FnSetGrows", spec := "fnSetGrows", inPlace := ["(*sync.RWMutex).Lock", "internal/race.Read", "internal/race.Disable", "(*internal/sync.Mutex).Lock", "sync/atomic.CompareAndSwapInt32", "internal/race.Enable", "internal/race.Acquire", "(*internal/sync.Mutex).lockSlow", "internal/sync.runtime_canSpin", "internal/sync.runtime_doSpin", "internal/sync.throw", "internal/sync.runtime_nanotime", "internal/sync.runtime_SemacquireMutex", "sync/atomic.AddInt32", "sync.runtime_SemacquireRWMutex", "(*sync.RWMutex).Unlock", "internal/race.Release", "internal/race.ReleaseMerge", "sync.fatal", "sync.runtime_Semrelease", "(*internal/sync.Mutex).Unlock", "(*internal/sync.Mutex).unlockSlow", "internal/sync.fatal", "internal/sync.runtime_Semrelease"], unfollowed := true, recurses := true, apart := false }
def FnSetGrowsSaid : Prop := fnSetGrowsRow.holds Tryz.pinned (OpenSpec.ofChange fnSetGrowsSpec)

/-- ITS FALSE NEIGHBOUR: 'it returns false'. Refute it at one input. -/
def fnSetGrowsWrong : ChangeSpec := { name := "fnSetGrows", fn := fun _ => fun
  | [d1, d2, d3] => { results := [.lit (.bool false)], args := [d1, d2, d3] }
  | _ => none }
def FnSetGrowsWrongFalsely : Prop := fnSetGrowsRow.holds Tryz.pinned (OpenSpec.ofChange fnSetGrowsWrong)

/-- 'laws.FnSetRoads': WHATEVER THE INPUT: true; the input reads as it did. -/
def fnSetRoadsSpec : ChangeSpec := { name := "fnSetRoads", fn := fun _ => fun
  | [d1, d2] => { results := [.lit (.bool true)], args := [d1, d2] }
  | _ => none }
def fnSetRoadsRow : OpenClaim := { program := "ytlmpgefhnmfhpaagreat", sum := "63f0b44b14fb98ef63349b7f76297059e2ae78e77f9f3f1b72ae5a11e6b32971", func := "pub-sheafwork/laws.FnSetRoads", spec := "fnSetRoads", inPlace := ["(*sync.RWMutex).Lock", "internal/race.Read", "internal/race.Disable", "(*internal/sync.Mutex).Lock", "sync/atomic.CompareAndSwapInt32", "internal/race.Enable", "internal/race.Acquire", "(*internal/sync.Mutex).lockSlow", "internal/sync.runtime_canSpin", "internal/sync.runtime_doSpin", "internal/sync.throw", "internal/sync.runtime_nanotime", "internal/sync.runtime_SemacquireMutex", "sync/atomic.AddInt32", "sync.runtime_SemacquireRWMutex", "(*sync.RWMutex).Unlock", "internal/race.Release", "internal/race.ReleaseMerge", "sync.fatal", "sync.runtime_Semrelease", "(*internal/sync.Mutex).Unlock", "(*internal/sync.Mutex).unlockSlow", "internal/sync.fatal", "internal/sync.runtime_Semrelease"], unfollowed := true, recurses := true, apart := false }
def FnSetRoadsSaid : Prop := fnSetRoadsRow.holds Tryz.pinned (OpenSpec.ofChange fnSetRoadsSpec)

/-- ITS FALSE NEIGHBOUR: 'it returns false'. Refute it at one input. -/
def fnSetRoadsWrong : ChangeSpec := { name := "fnSetRoads", fn := fun _ => fun
  | [d1, d2] => { results := [.lit (.bool false)], args := [d1, d2] }
  | _ => none }
def FnSetRoadsWrongFalsely : Prop := fnSetRoadsRow.holds Tryz.pinned (OpenSpec.ofChange fnSetRoadsWrong)

/- THE SECOND FORM. 'bulk': how many values and letters a reading holds, each counted each time it is reached (what is shared counts as often as it is met; a slice's spare places count too). A statement '..UptoSaid' is the law's where the arguments, and the package variables that the reading takes, are together of bulk at most 1048576: NARROWER than '..Said'. Prove '..Said' where nothing that the law and all that it calls make is longer than what came in: it says more and counts as full. Else prove '..UptoSaid'. A law counts once. -/
mutual
def uptoBulk {H : Type} : DataW H → Nat
  | .lit (.string bytes) => bytes.length + 1
  | .lit _ => 1
  | .nil => 1
  | .ptr d => uptoBulk d + 1
  | .slice elems spare => uptoBulkAll elems + uptoBulkAll spare + 1
  | .agg parts => uptoBulkAll parts + 1
  | .iface _ d => uptoBulk d + 1
  | .map entries => uptoBulkEntries entries + 1
  | .held _ => 1
def uptoBulkAll {H : Type} : List (DataW H) → Nat
  | [] => 0
  | d :: r => uptoBulk d + uptoBulkAll r
def uptoBulkEntries {H : Type} : List (Lit × DataW H) → Nat
  | [] => 0
  | x :: r => uptoBulkEntry x + uptoBulkEntries r
def uptoBulkEntry {H : Type} : Lit × DataW H → Nat
  | (.string bytes, d) => bytes.length + uptoBulk d + 1
  | (_, d) => uptoBulk d + 1
 end
def uptoSmall : (H : Type) → List (DataW H) → Bool := fun _ ds => decide (uptoBulkAll ds ≤ 1048576)
def OpenSpec.upto (s : _root_.Go.ChangeSpec) : _root_.Go.OpenSpec := { _root_.Go.OpenSpec.ofChange s with cond := some uptoSmall }

/-- 'laws.FnSetLaws', WHERE WHAT IT READS IS OF BULK AT MOST 1048576: true; the input reads as it did. -/
def fnSetLawsUptoRow : OpenClaim := { program := "ytlmpgefhnmfhpaagreat", sum := "63f0b44b14fb98ef63349b7f76297059e2ae78e77f9f3f1b72ae5a11e6b32971", func := "pub-sheafwork/laws.FnSetLaws", spec := "fnSetLaws", inPlace := ["(*sync.RWMutex).Lock", "internal/race.Read", "internal/race.Disable", "(*internal/sync.Mutex).Lock", "sync/atomic.CompareAndSwapInt32", "internal/race.Enable", "internal/race.Acquire", "(*internal/sync.Mutex).lockSlow", "internal/sync.runtime_canSpin", "internal/sync.runtime_doSpin", "internal/sync.throw", "internal/sync.runtime_nanotime", "internal/sync.runtime_SemacquireMutex", "sync/atomic.AddInt32", "sync.runtime_SemacquireRWMutex", "(*sync.RWMutex).Unlock", "internal/race.Release", "internal/race.ReleaseMerge", "sync.fatal", "sync.runtime_Semrelease", "(*internal/sync.Mutex).Unlock", "(*internal/sync.Mutex).unlockSlow", "internal/sync.fatal", "internal/sync.runtime_Semrelease"], unfollowed := true, recurses := true, apart := false, narrowed := true }
def FnSetLawsUptoSaid : Prop := fnSetLawsUptoRow.holds Tryz.pinned (OpenSpec.upto fnSetLawsSpec)

/-- 'laws.FnSetRelations', WHERE WHAT IT READS IS OF BULK AT MOST 1048576: true; the input reads as it did. -/
def fnSetRelationsUptoRow : OpenClaim := { program := "ytlmpgefhnmfhpaagreat", sum := "63f0b44b14fb98ef63349b7f76297059e2ae78e77f9f3f1b72ae5a11e6b32971", func := "pub-sheafwork/laws.FnSetRelations", spec := "fnSetRelations", inPlace := ["(*sync.RWMutex).Lock", "internal/race.Read", "internal/race.Disable", "(*internal/sync.Mutex).Lock", "sync/atomic.CompareAndSwapInt32", "internal/race.Enable", "internal/race.Acquire", "(*internal/sync.Mutex).lockSlow", "internal/sync.runtime_canSpin", "internal/sync.runtime_doSpin", "internal/sync.throw", "internal/sync.runtime_nanotime", "internal/sync.runtime_SemacquireMutex", "sync/atomic.AddInt32", "sync.runtime_SemacquireRWMutex", "(*sync.RWMutex).Unlock", "internal/race.Release", "internal/race.ReleaseMerge", "sync.fatal", "sync.runtime_Semrelease", "(*internal/sync.Mutex).Unlock", "(*internal/sync.Mutex).unlockSlow", "internal/sync.fatal", "internal/sync.runtime_Semrelease"], unfollowed := true, recurses := true, apart := false, narrowed := true }
def FnSetRelationsUptoSaid : Prop := fnSetRelationsUptoRow.holds Tryz.pinned (OpenSpec.upto fnSetRelationsSpec)

/-- 'laws.FnSetKinds', WHERE WHAT IT READS IS OF BULK AT MOST 1048576: true; the input reads as it did. -/
def fnSetKindsUptoRow : OpenClaim := { program := "ytlmpgefhnmfhpaagreat", sum := "63f0b44b14fb98ef63349b7f76297059e2ae78e77f9f3f1b72ae5a11e6b32971", func := "pub-sheafwork/laws.FnSetKinds", spec := "fnSetKinds", inPlace := ["(*sync.RWMutex).Lock", "internal/race.Read", "internal/race.Disable", "(*internal/sync.Mutex).Lock", "sync/atomic.CompareAndSwapInt32", "internal/race.Enable", "internal/race.Acquire", "(*internal/sync.Mutex).lockSlow", "internal/sync.runtime_canSpin", "internal/sync.runtime_doSpin", "internal/sync.throw", "internal/sync.runtime_nanotime", "internal/sync.runtime_SemacquireMutex", "sync/atomic.AddInt32", "sync.runtime_SemacquireRWMutex", "(*sync.RWMutex).Unlock", "internal/race.Release", "internal/race.ReleaseMerge", "sync.fatal", "sync.runtime_Semrelease", "(*internal/sync.Mutex).Unlock", "(*internal/sync.Mutex).unlockSlow", "internal/sync.fatal", "internal/sync.runtime_Semrelease"], unfollowed := true, recurses := true, apart := false, narrowed := true }
def FnSetKindsUptoSaid : Prop := fnSetKindsUptoRow.holds Tryz.pinned (OpenSpec.upto fnSetKindsSpec)

/-- 'laws.FnSetScript', WHERE WHAT IT READS IS OF BULK AT MOST 1048576: true; the input reads as it did. -/
def fnSetScriptUptoRow : OpenClaim := { program := "ytlmpgefhnmfhpaagreat", sum := "63f0b44b14fb98ef63349b7f76297059e2ae78e77f9f3f1b72ae5a11e6b32971", func := "pub-sheafwork/laws.FnSetScript", spec := "fnSetScript", inPlace := ["(*sync.RWMutex).Lock", "internal/race.Read", "internal/race.Disable", "(*internal/sync.Mutex).Lock", "sync/atomic.CompareAndSwapInt32", "internal/race.Enable", "internal/race.Acquire", "(*internal/sync.Mutex).lockSlow", "internal/sync.runtime_canSpin", "internal/sync.runtime_doSpin", "internal/sync.throw", "internal/sync.runtime_nanotime", "internal/sync.runtime_SemacquireMutex", "sync/atomic.AddInt32", "sync.runtime_SemacquireRWMutex", "(*sync.RWMutex).Unlock", "internal/race.Release", "internal/race.ReleaseMerge", "sync.fatal", "sync.runtime_Semrelease", "(*internal/sync.Mutex).Unlock", "(*internal/sync.Mutex).unlockSlow", "internal/sync.fatal", "internal/sync.runtime_Semrelease"], unfollowed := true, recurses := true, apart := false, narrowed := true }
def FnSetScriptUptoSaid : Prop := fnSetScriptUptoRow.holds Tryz.pinned (OpenSpec.upto fnSetScriptSpec)

/-- 'laws.FnSetsApart', WHERE WHAT IT READS IS OF BULK AT MOST 1048576: true; the input reads as it did. -/
def fnSetsApartUptoRow : OpenClaim := { program := "ytlmpgefhnmfhpaagreat", sum := "63f0b44b14fb98ef63349b7f76297059e2ae78e77f9f3f1b72ae5a11e6b32971", func := "pub-sheafwork/laws.FnSetsApart", spec := "fnSetsApart", inPlace := ["(*sync.RWMutex).Lock", "internal/race.Read", "internal/race.Disable", "(*internal/sync.Mutex).Lock", "sync/atomic.CompareAndSwapInt32", "internal/race.Enable", "internal/race.Acquire", "(*internal/sync.Mutex).lockSlow", "internal/sync.runtime_canSpin", "internal/sync.runtime_doSpin", "internal/sync.throw", "internal/sync.runtime_nanotime", "internal/sync.runtime_SemacquireMutex", "sync/atomic.AddInt32", "sync.runtime_SemacquireRWMutex", "(*sync.RWMutex).Unlock", "internal/race.Release", "internal/race.ReleaseMerge", "sync.fatal", "sync.runtime_Semrelease", "(*internal/sync.Mutex).Unlock", "(*internal/sync.Mutex).unlockSlow", "internal/sync.fatal", "internal/sync.runtime_Semrelease"], unfollowed := true, recurses := true, apart := false, narrowed := true }
def FnSetsApartUptoSaid : Prop := fnSetsApartUptoRow.holds Tryz.pinned (OpenSpec.upto fnSetsApartSpec)

/-- 'laws.FnSetGrows', WHERE WHAT IT READS IS OF BULK AT MOST 1048576: true; the input reads as it did. -/
def fnSetGrowsUptoRow : OpenClaim := { program := "ytlmpgefhnmfhpaagreat", sum := "63f0b44b14fb98ef63349b7f76297059e2ae78e77f9f3f1b72ae5a11e6b32971", func := "pub-sheafwork/laws.FnSetGrows", spec := "fnSetGrows", inPlace := ["(*sync.RWMutex).Lock", "internal/race.Read", "internal/race.Disable", "(*internal/sync.Mutex).Lock", "sync/atomic.CompareAndSwapInt32", "internal/race.Enable", "internal/race.Acquire", "(*internal/sync.Mutex).lockSlow", "internal/sync.runtime_canSpin", "internal/sync.runtime_doSpin", "internal/sync.throw", "internal/sync.runtime_nanotime", "internal/sync.runtime_SemacquireMutex", "sync/atomic.AddInt32", "sync.runtime_SemacquireRWMutex", "(*sync.RWMutex).Unlock", "internal/race.Release", "internal/race.ReleaseMerge", "sync.fatal", "sync.runtime_Semrelease", "(*internal/sync.Mutex).Unlock", "(*internal/sync.Mutex).unlockSlow", "internal/sync.fatal", "internal/sync.runtime_Semrelease"], unfollowed := true, recurses := true, apart := false, narrowed := true }
def FnSetGrowsUptoSaid : Prop := fnSetGrowsUptoRow.holds Tryz.pinned (OpenSpec.upto fnSetGrowsSpec)

/-- 'laws.FnSetRoads', WHERE WHAT IT READS IS OF BULK AT MOST 1048576: true; the input reads as it did. -/
def fnSetRoadsUptoRow : OpenClaim := { program := "ytlmpgefhnmfhpaagreat", sum := "63f0b44b14fb98ef63349b7f76297059e2ae78e77f9f3f1b72ae5a11e6b32971", func := "pub-sheafwork/laws.FnSetRoads", spec := "fnSetRoads", inPlace := ["(*sync.RWMutex).Lock", "internal/race.Read", "internal/race.Disable", "(*internal/sync.Mutex).Lock", "sync/atomic.CompareAndSwapInt32", "internal/race.Enable", "internal/race.Acquire", "(*internal/sync.Mutex).lockSlow", "internal/sync.runtime_canSpin", "internal/sync.runtime_doSpin", "internal/sync.throw", "internal/sync.runtime_nanotime", "internal/sync.runtime_SemacquireMutex", "sync/atomic.AddInt32", "sync.runtime_SemacquireRWMutex", "(*sync.RWMutex).Unlock", "internal/race.Release", "internal/race.ReleaseMerge", "sync.fatal", "sync.runtime_Semrelease", "(*internal/sync.Mutex).Unlock", "(*internal/sync.Mutex).unlockSlow", "internal/sync.fatal", "internal/sync.runtime_Semrelease"], unfollowed := true, recurses := true, apart := false, narrowed := true }
def FnSetRoadsUptoSaid : Prop := fnSetRoadsUptoRow.holds Tryz.pinned (OpenSpec.upto fnSetRoadsSpec)

end Rows
end Go.Proofs.YtlmpgefhnmfhpaaGreat
