/-
  DERIVED. GIVEN WITH THE SEED: THE CARDS: each row of Qxb6614869aFmtRows.lean that lists a variable, with what it lists TIED to the program's text (the seventh form; the later family's looks); each row that meets fmt, with fmt's text TOLD by the authors' own Lean function (tested against real Go, not proved from fmt's source: count such statements apart). THE CARD IS WHAT COUNTS. Prove the row's statement (the work); the ties are given (Qxb6614869aFmtTie.lean); close each card by the builder's one call (the guide's Derived/Test/ToyasCard.lean, 'card_holds'). Laid BY PROGRAM, IN A SANDBOX (cutbox-door.mjs). By AI agents, Wed Nov 11 2026. No macro, syntax, notation, axiom, sorry.
-/
import Derived.Test.Qxb6614869aFmtRows
import GoSem.ClaimSeven
namespace Go.Proofs.Qxb6614869aFmt
namespace Rows

/-- THE TOLD AND TIED CARD OF 'zzlaws_root_b1.FnReasonOfClassifiesMappingRefusals'. -/
def fnReasonOfClassifiesMappingRefusalsCard : Claim7 := { stood := { row := fnReasonOfClassifiesMappingRefusalsRow, standIns := [], harness := (true, "8eedaa6e550b845fe4a9847e7b267ba0a3eb694d1817736797018f07e34ecb28"), looks := true }, told := true, laidByText := true, laidKinds := [.handle], laidTests := true, laidLooks := .later, goes := false }
def FnReasonOfClassifiesMappingRefusalsToldSaid : Prop := Claim7.holds Tryf.pinned (.plain (OpenSpec.ofChange fnReasonOfClassifiesMappingRefusalsSpec)) fnReasonOfClassifiesMappingRefusalsCard
/-- ITS FALSE NEIGHBOUR. Refute it at one input. -/
def FnReasonOfClassifiesMappingRefusalsToldWrongFalsely : Prop := Claim7.holds Tryf.pinned (.plain (OpenSpec.ofChange fnReasonOfClassifiesMappingRefusalsWrong)) fnReasonOfClassifiesMappingRefusalsCard
end Rows
end Go.Proofs.Qxb6614869aFmt
