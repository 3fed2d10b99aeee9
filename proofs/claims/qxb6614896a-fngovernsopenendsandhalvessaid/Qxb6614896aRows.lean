/-
  No cell of these rows narrows 'for every input' (looked for: loops, veiled, ifaces, maps, wideKeys, modest, calm, conditions, laid).
  DERIVED. THE GIVEN ROWS OF THIS SEAT. 2 by the template 'for every input the law returns true; each argument reads behind the call as it read before'; 0 by the template 'total and deterministic' (their statements: Qxb6614896aTotals.lean).
  GIVEN WITH THE SEED: the statements are not yours to turn. If you find one false, say at which input.
  Laid BY PROGRAM, IN A SANDBOX (cutbox-rows.mjs): the forced cells as the released guide's own fill.sh prints them over the translation 05113c75e0d629fc… (all of the seat's roots in one cut). By AI agents, Wed Nov 11 2026. No macro, syntax, notation, axiom, sorry.
-/
import Derived.Test.Qxb6614896aChecked
import GoSem.Claim
import GoSem.ClaimJoined
import GoSem.ClaimMapViews
import Derived.JoinedTies
import Derived.KernelRfl
namespace Go.Proofs.Qxb6614896a
/- THE CELL 'sum', in the pinned program and in every row, IS THE sha256 OF THE DUMP (.gsa) THAT Qxb6614896aProg.lean LOADS. Nothing in Lean hashes anything: it is a label: what it is worth is what the hold of that sum in a sandbox is worth. -/
noncomputable def Try.pinned : Pinned := { name := "qxb6614896a", sum := "05113c75e0d629fcaac948ccc9e298ee0e4333e86e8a26c48288b862ed839959", checked := Try.checked }
namespace Rows
def none {H : Type} : Left H := { results := [], args := [] }

/-- 'zzlaws_plan_b1.FnGovernsOpenEndsAndHalves': WHATEVER THE INPUT: true; the input reads as it did. -/
def fnGovernsOpenEndsAndHalvesSpec : ChangeSpec := { name := "fnGovernsOpenEndsAndHalves", fn := fun _ => fun
  | [d1, d2, d3, d4] => { results := [.lit (.bool true)], args := [d1, d2, d3, d4] }
  | _ => none }
def fnGovernsOpenEndsAndHalvesRow : OpenClaim := { program := "qxb6614896a", sum := "05113c75e0d629fcaac948ccc9e298ee0e4333e86e8a26c48288b862ed839959", func := "example.com/vestwright/vestwright/zzlaws_plan_b1.FnGovernsOpenEndsAndHalves", spec := "fnGovernsOpenEndsAndHalves", apart := false }
def FnGovernsOpenEndsAndHalvesSaid : Prop := fnGovernsOpenEndsAndHalvesRow.holds Try.pinned (OpenSpec.ofChange fnGovernsOpenEndsAndHalvesSpec)

/-- ITS FALSE NEIGHBOUR: 'it returns false'. Refute it at one input. -/
def fnGovernsOpenEndsAndHalvesWrong : ChangeSpec := { name := "fnGovernsOpenEndsAndHalves", fn := fun _ => fun
  | [d1, d2, d3, d4] => { results := [.lit (.bool false)], args := [d1, d2, d3, d4] }
  | _ => none }
def FnGovernsOpenEndsAndHalvesWrongFalsely : Prop := fnGovernsOpenEndsAndHalvesRow.holds Try.pinned (OpenSpec.ofChange fnGovernsOpenEndsAndHalvesWrong)

/-- 'zzlaws_plan_b1.FnGovernsConvexWithItsEnds': WHATEVER THE INPUT: true; the input reads as it did. -/
def fnGovernsConvexWithItsEndsSpec : ChangeSpec := { name := "fnGovernsConvexWithItsEnds", fn := fun _ => fun
  | [d1, d2, d3, d4, d5, d6] => { results := [.lit (.bool true)], args := [d1, d2, d3, d4, d5, d6] }
  | _ => none }
def fnGovernsConvexWithItsEndsRow : OpenClaim := { program := "qxb6614896a", sum := "05113c75e0d629fcaac948ccc9e298ee0e4333e86e8a26c48288b862ed839959", func := "example.com/vestwright/vestwright/zzlaws_plan_b1.FnGovernsConvexWithItsEnds", spec := "fnGovernsConvexWithItsEnds", apart := false }
def FnGovernsConvexWithItsEndsSaid : Prop := fnGovernsConvexWithItsEndsRow.holds Try.pinned (OpenSpec.ofChange fnGovernsConvexWithItsEndsSpec)

/-- ITS FALSE NEIGHBOUR: 'it returns false'. Refute it at one input. -/
def fnGovernsConvexWithItsEndsWrong : ChangeSpec := { name := "fnGovernsConvexWithItsEnds", fn := fun _ => fun
  | [d1, d2, d3, d4, d5, d6] => { results := [.lit (.bool false)], args := [d1, d2, d3, d4, d5, d6] }
  | _ => none }
def FnGovernsConvexWithItsEndsWrongFalsely : Prop := fnGovernsConvexWithItsEndsRow.holds Try.pinned (OpenSpec.ofChange fnGovernsConvexWithItsEndsWrong)

end Rows
end Go.Proofs.Qxb6614896a
