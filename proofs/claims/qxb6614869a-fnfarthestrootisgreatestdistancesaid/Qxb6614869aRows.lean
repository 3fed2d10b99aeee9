/-
  No cell of these rows narrows 'for every input' (looked for: loops, veiled, ifaces, maps, wideKeys, modest, calm, conditions, laid).
  DERIVED. THE GIVEN ROWS OF THIS SEAT. 2 by the template 'for every input the law returns true; each argument reads behind the call as it read before'; 0 by the template 'total and deterministic' (their statements: Qxb6614869aTotals.lean).
  GIVEN WITH THE SEED: the statements are not yours to turn. If you find one false, say at which input.
  Laid BY PROGRAM, IN A SANDBOX (cutbox-rows.mjs): the forced cells as the released guide's own fill.sh prints them over the translation 737f3f6557e0ffb3… (all of the seat's roots in one cut). By AI agents, Wed Nov 11 2026. No macro, syntax, notation, axiom, sorry.
-/
import Derived.Test.Qxb6614869aChecked
import GoSem.Claim
import GoSem.ClaimJoined
import GoSem.ClaimMapViews
import Derived.JoinedTies
import Derived.KernelRfl
namespace Go.Proofs.Qxb6614869a
/- THE CELL 'sum', in the pinned program and in every row, IS THE sha256 OF THE DUMP (.gsa) THAT Qxb6614869aProg.lean LOADS. Nothing in Lean hashes anything: it is a label: what it is worth is what the hold of that sum in a sandbox is worth. -/
noncomputable def Try.pinned : Pinned := { name := "qxb6614869a", sum := "737f3f6557e0ffb3cd462bf28c0ce67f2764681873cae4a3ce90cf5ae5075a89", checked := Try.checked }
namespace Rows
def none {H : Type} : Left H := { results := [], args := [] }

/-- 'zzlaws_root_b1.FnFarthestLessIsStrictNumericOrder': WHATEVER THE INPUT: true; the input reads as it did. -/
def fnFarthestLessIsStrictNumericOrderSpec : ChangeSpec := { name := "fnFarthestLessIsStrictNumericOrder", fn := fun _ => fun
  | [d1, d2, d3] => { results := [.lit (.bool true)], args := [d1, d2, d3] }
  | _ => none }
def fnFarthestLessIsStrictNumericOrderRow : OpenClaim := { program := "qxb6614869a", sum := "737f3f6557e0ffb3cd462bf28c0ce67f2764681873cae4a3ce90cf5ae5075a89", func := "example.com/floodmark/floodmark/zzlaws_root_b1.FnFarthestLessIsStrictNumericOrder", spec := "fnFarthestLessIsStrictNumericOrder", inPlace := ["internal/bytealg.Compare"], apart := false }
def FnFarthestLessIsStrictNumericOrderSaid : Prop := fnFarthestLessIsStrictNumericOrderRow.holds Try.pinned (OpenSpec.ofChange fnFarthestLessIsStrictNumericOrderSpec)

/-- ITS FALSE NEIGHBOUR: 'it returns false'. Refute it at one input. -/
def fnFarthestLessIsStrictNumericOrderWrong : ChangeSpec := { name := "fnFarthestLessIsStrictNumericOrder", fn := fun _ => fun
  | [d1, d2, d3] => { results := [.lit (.bool false)], args := [d1, d2, d3] }
  | _ => none }
def FnFarthestLessIsStrictNumericOrderWrongFalsely : Prop := fnFarthestLessIsStrictNumericOrderRow.holds Try.pinned (OpenSpec.ofChange fnFarthestLessIsStrictNumericOrderWrong)

/-- 'zzlaws_root_b1.FnFarthestRootIsGreatestDistance': WHATEVER THE INPUT: true; the input reads as it did. -/
def fnFarthestRootIsGreatestDistanceSpec : ChangeSpec := { name := "fnFarthestRootIsGreatestDistance", fn := fun _ => fun
  | [d] => { results := [.lit (.bool true)], args := [d] }
  | _ => none }
def fnFarthestRootIsGreatestDistanceRow : OpenClaim := { program := "qxb6614869a", sum := "737f3f6557e0ffb3cd462bf28c0ce67f2764681873cae4a3ce90cf5ae5075a89", func := "example.com/floodmark/floodmark/zzlaws_root_b1.FnFarthestRootIsGreatestDistance", spec := "fnFarthestRootIsGreatestDistance", inPlace := ["internal/bytealg.Compare"], apart := false }
def FnFarthestRootIsGreatestDistanceSaid : Prop := fnFarthestRootIsGreatestDistanceRow.holds Try.pinned (OpenSpec.ofChange fnFarthestRootIsGreatestDistanceSpec)

/-- ITS FALSE NEIGHBOUR: 'it returns false'. Refute it at one input. -/
def fnFarthestRootIsGreatestDistanceWrong : ChangeSpec := { name := "fnFarthestRootIsGreatestDistance", fn := fun _ => fun
  | [d] => { results := [.lit (.bool false)], args := [d] }
  | _ => none }
def FnFarthestRootIsGreatestDistanceWrongFalsely : Prop := fnFarthestRootIsGreatestDistanceRow.holds Try.pinned (OpenSpec.ofChange fnFarthestRootIsGreatestDistanceWrong)

end Rows
end Go.Proofs.Qxb6614869a
