/-
  No cell of these rows narrows 'for every input' (looked for: loops, veiled, ifaces, maps, wideKeys, modest, calm, conditions, laid).
  DERIVED. THE GIVEN ROWS OF THIS SEAT. 5 by the template 'for every input the law returns true; each argument reads behind the call as it read before'; 0 by the template 'total and deterministic' (their statements: Qxb6614780aTotals.lean).
  GIVEN WITH THE SEED: the statements are not yours to turn. If you find one false, say at which input.
  Laid BY PROGRAM, IN A SANDBOX (cutbox-rows.mjs): the forced cells as the released guide's own fill.sh prints them over the translation 5badf46999d8be74… (all of the seat's roots in one cut). By AI agents, Wed Nov 11 2026. No macro, syntax, notation, axiom, sorry.
-/
import Derived.Test.Qxb6614780aChecked
import GoSem.Claim
import GoSem.ClaimJoined
import GoSem.ClaimMapViews
import Derived.JoinedTies
import Derived.KernelRfl
namespace Go.Proofs.Qxb6614780a
/- THE CELL 'sum', in the pinned program and in every row, IS THE sha256 OF THE DUMP (.gsa) THAT Qxb6614780aProg.lean LOADS. Nothing in Lean hashes anything: it is a label: what it is worth is what the hold of that sum in a sandbox is worth. -/
noncomputable def Try.pinned : Pinned := { name := "qxb6614780a", sum := "5badf46999d8be749d263c88feab0aa2e59dbe2e3cf1ede57ef4c97ffc10d1de", checked := Try.checked }
namespace Rows
def none {H : Type} : Left H := { results := [], args := [] }

/-- 'zzlaws_root_b1.FnWithAfterStopIsUnionOfStretches': WHATEVER THE INPUT: true; the input reads as it did. -/
def fnWithAfterStopIsUnionOfStretchesSpec : ChangeSpec := { name := "fnWithAfterStopIsUnionOfStretches", fn := fun _ => fun
  | [d1, d2] => { results := [.lit (.bool true)], args := [d1, d2] }
  | _ => none }
def fnWithAfterStopIsUnionOfStretchesRow : OpenClaim := { program := "qxb6614780a", sum := "5badf46999d8be749d263c88feab0aa2e59dbe2e3cf1ede57ef4c97ffc10d1de", func := "example.com/amends/amends/zzlaws_root_b1.FnWithAfterStopIsUnionOfStretches", spec := "fnWithAfterStopIsUnionOfStretches", inPlace := ["internal/abi.NoEscape", "internal/bytealg.MakeNoZero"], unfollowed := true, recurses := true, plainKeys := false, apart := false }
def FnWithAfterStopIsUnionOfStretchesSaid : Prop := fnWithAfterStopIsUnionOfStretchesRow.holds Try.pinned (OpenSpec.ofChange fnWithAfterStopIsUnionOfStretchesSpec)

/-- ITS FALSE NEIGHBOUR: 'it returns false'. Refute it at one input. -/
def fnWithAfterStopIsUnionOfStretchesWrong : ChangeSpec := { name := "fnWithAfterStopIsUnionOfStretches", fn := fun _ => fun
  | [d1, d2] => { results := [.lit (.bool false)], args := [d1, d2] }
  | _ => none }
def FnWithAfterStopIsUnionOfStretchesWrongFalsely : Prop := fnWithAfterStopIsUnionOfStretchesRow.holds Try.pinned (OpenSpec.ofChange fnWithAfterStopIsUnionOfStretchesWrong)

/-- 'zzlaws_root_b1.FnDropOpensExactlyTheNamedUndoGates': WHATEVER THE INPUT: true; the input reads as it did. -/
def fnDropOpensExactlyTheNamedUndoGatesSpec : ChangeSpec := { name := "fnDropOpensExactlyTheNamedUndoGates", fn := fun _ => fun
  | [d1, d2, d3, d4, d5] => { results := [.lit (.bool true)], args := [d1, d2, d3, d4, d5] }
  | _ => none }
def fnDropOpensExactlyTheNamedUndoGatesRow : OpenClaim := { program := "qxb6614780a", sum := "5badf46999d8be749d263c88feab0aa2e59dbe2e3cf1ede57ef4c97ffc10d1de", func := "example.com/amends/amends/zzlaws_root_b1.FnDropOpensExactlyTheNamedUndoGates", spec := "fnDropOpensExactlyTheNamedUndoGates", inPlace := ["sync/atomic.SwapUint32", "sync/atomic.LoadUint32"], plainKeys := false, apart := false }
def FnDropOpensExactlyTheNamedUndoGatesSaid : Prop := fnDropOpensExactlyTheNamedUndoGatesRow.holds Try.pinned (OpenSpec.ofChange fnDropOpensExactlyTheNamedUndoGatesSpec)

/-- ITS FALSE NEIGHBOUR: 'it returns false'. Refute it at one input. -/
def fnDropOpensExactlyTheNamedUndoGatesWrong : ChangeSpec := { name := "fnDropOpensExactlyTheNamedUndoGates", fn := fun _ => fun
  | [d1, d2, d3, d4, d5] => { results := [.lit (.bool false)], args := [d1, d2, d3, d4, d5] }
  | _ => none }
def FnDropOpensExactlyTheNamedUndoGatesWrongFalsely : Prop := fnDropOpensExactlyTheNamedUndoGatesRow.holds Try.pinned (OpenSpec.ofChange fnDropOpensExactlyTheNamedUndoGatesWrong)

/-- 'zzlaws_root_b1.FnDropFirstOpenerKeepsItsReach': WHATEVER THE INPUT: true; the input reads as it did. -/
def fnDropFirstOpenerKeepsItsReachSpec : ChangeSpec := { name := "fnDropFirstOpenerKeepsItsReach", fn := fun _ => fun
  | [d1, d2, d3, d4, d5, d6, d7] => { results := [.lit (.bool true)], args := [d1, d2, d3, d4, d5, d6, d7] }
  | _ => none }
def fnDropFirstOpenerKeepsItsReachRow : OpenClaim := { program := "qxb6614780a", sum := "5badf46999d8be749d263c88feab0aa2e59dbe2e3cf1ede57ef4c97ffc10d1de", func := "example.com/amends/amends/zzlaws_root_b1.FnDropFirstOpenerKeepsItsReach", spec := "fnDropFirstOpenerKeepsItsReach", inPlace := ["sync/atomic.SwapUint32", "sync/atomic.LoadUint32"], plainKeys := false, apart := false }
def FnDropFirstOpenerKeepsItsReachSaid : Prop := fnDropFirstOpenerKeepsItsReachRow.holds Try.pinned (OpenSpec.ofChange fnDropFirstOpenerKeepsItsReachSpec)

/-- ITS FALSE NEIGHBOUR: 'it returns false'. Refute it at one input. -/
def fnDropFirstOpenerKeepsItsReachWrong : ChangeSpec := { name := "fnDropFirstOpenerKeepsItsReach", fn := fun _ => fun
  | [d1, d2, d3, d4, d5, d6, d7] => { results := [.lit (.bool false)], args := [d1, d2, d3, d4, d5, d6, d7] }
  | _ => none }
def FnDropFirstOpenerKeepsItsReachWrongFalsely : Prop := fnDropFirstOpenerKeepsItsReachRow.holds Try.pinned (OpenSpec.ofChange fnDropFirstOpenerKeepsItsReachWrong)

/-- 'zzlaws_root_b1.FnTogetherCallsEachIndexOnce': WHATEVER THE INPUT: true; the input reads as it did. -/
def fnTogetherCallsEachIndexOnceSpec : ChangeSpec := { name := "fnTogetherCallsEachIndexOnce", fn := fun _ => fun
  | [d] => { results := [.lit (.bool true)], args := [d] }
  | _ => none }
def fnTogetherCallsEachIndexOnceRow : OpenClaim := { program := "qxb6614780a", sum := "5badf46999d8be749d263c88feab0aa2e59dbe2e3cf1ede57ef4c97ffc10d1de", func := "example.com/amends/amends/zzlaws_root_b1.FnTogetherCallsEachIndexOnce", spec := "fnTogetherCallsEachIndexOnce", inPlace := ["internal/reflectlite.TypeOf", "(*sync.WaitGroup).Go", "(*sync.WaitGroup).Add", "internal/race.ReleaseMerge", "internal/race.Disable", "internal/race.Enable", "internal/synctest.IsInBubble", "internal/synctest.Associate[sync.WaitGroup]", "sync.fatal", "sync/atomic.OrUint64", "sync/atomic.AddUint64", "internal/race.Read", "sync/atomic.LoadUint64", "sync/atomic.StoreUint64", "internal/synctest.Disassociate[sync.WaitGroup]", "sync.runtime_Semrelease", "(*sync.WaitGroup).Go$1", "(*sync.WaitGroup).Go$1$1", "(*sync.WaitGroup).Done", "(*sync.WaitGroup).Wait", "internal/race.Acquire", "internal/synctest.IsAssociated[sync.WaitGroup]", "sync/atomic.CompareAndSwapUint64", "internal/race.Write", "sync.runtime_SemacquireWaitGroup"], unfollowed := true, recurses := true, plainKeys := false, apart := false }
def FnTogetherCallsEachIndexOnceSaid : Prop := fnTogetherCallsEachIndexOnceRow.holds Try.pinned (OpenSpec.ofChange fnTogetherCallsEachIndexOnceSpec)

/-- ITS FALSE NEIGHBOUR: 'it returns false'. Refute it at one input. -/
def fnTogetherCallsEachIndexOnceWrong : ChangeSpec := { name := "fnTogetherCallsEachIndexOnce", fn := fun _ => fun
  | [d] => { results := [.lit (.bool false)], args := [d] }
  | _ => none }
def FnTogetherCallsEachIndexOnceWrongFalsely : Prop := fnTogetherCallsEachIndexOnceRow.holds Try.pinned (OpenSpec.ofChange fnTogetherCallsEachIndexOnceWrong)

/-- 'zzlaws_root_b1.FnTogetherForksAndJoinsReaches': WHATEVER THE INPUT: true; the input reads as it did. -/
def fnTogetherForksAndJoinsReachesSpec : ChangeSpec := { name := "fnTogetherForksAndJoinsReaches", fn := fun _ => fun
  | [d1, d2, d3] => { results := [.lit (.bool true)], args := [d1, d2, d3] }
  | _ => none }
def fnTogetherForksAndJoinsReachesRow : OpenClaim := { program := "qxb6614780a", sum := "5badf46999d8be749d263c88feab0aa2e59dbe2e3cf1ede57ef4c97ffc10d1de", func := "example.com/amends/amends/zzlaws_root_b1.FnTogetherForksAndJoinsReaches", spec := "fnTogetherForksAndJoinsReaches", inPlace := ["internal/reflectlite.TypeOf", "(*sync.WaitGroup).Go", "(*sync.WaitGroup).Add", "internal/race.ReleaseMerge", "internal/race.Disable", "internal/race.Enable", "internal/synctest.IsInBubble", "internal/synctest.Associate[sync.WaitGroup]", "sync.fatal", "sync/atomic.OrUint64", "sync/atomic.AddUint64", "internal/race.Read", "sync/atomic.LoadUint64", "sync/atomic.StoreUint64", "internal/synctest.Disassociate[sync.WaitGroup]", "sync.runtime_Semrelease", "(*sync.WaitGroup).Go$1", "(*sync.WaitGroup).Go$1$1", "(*sync.WaitGroup).Done", "(*sync.WaitGroup).Wait", "internal/race.Acquire", "internal/synctest.IsAssociated[sync.WaitGroup]", "sync/atomic.CompareAndSwapUint64", "internal/race.Write", "sync.runtime_SemacquireWaitGroup"], unfollowed := true, recurses := true, plainKeys := false, apart := false }
def FnTogetherForksAndJoinsReachesSaid : Prop := fnTogetherForksAndJoinsReachesRow.holds Try.pinned (OpenSpec.ofChange fnTogetherForksAndJoinsReachesSpec)

/-- ITS FALSE NEIGHBOUR: 'it returns false'. Refute it at one input. -/
def fnTogetherForksAndJoinsReachesWrong : ChangeSpec := { name := "fnTogetherForksAndJoinsReaches", fn := fun _ => fun
  | [d1, d2, d3] => { results := [.lit (.bool false)], args := [d1, d2, d3] }
  | _ => none }
def FnTogetherForksAndJoinsReachesWrongFalsely : Prop := fnTogetherForksAndJoinsReachesRow.holds Try.pinned (OpenSpec.ofChange fnTogetherForksAndJoinsReachesWrong)

end Rows
end Go.Proofs.Qxb6614780a
