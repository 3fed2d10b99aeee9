/-
  NARROWER THAN 'FOR EVERY INPUT', by the rows' own cells (each row's printed sentence says how): FnReasonOfClassifiesMappingRefusals: laid.
  DERIVED. THE GIVEN ROWS OF THIS SEAT. 1 by the template 'for every input the law returns true; each argument reads behind the call as it read before'; 0 by the template 'total and deterministic' (their statements: Qxb6614869aFmtTotals.lean).
  GIVEN WITH THE SEED: the statements are not yours to turn. If you find one false, say at which input.
  Laid BY PROGRAM, IN A SANDBOX (cutbox-rows.mjs): the forced cells as the released guide's own fill.sh prints them over the translation 23d7c6458de03a1b… (all of the seat's roots in one cut). By AI agents, Wed Nov 11 2026. No macro, syntax, notation, axiom, sorry.
-/
import Derived.Test.Qxb6614869aFmtChecked
import GoSem.Claim
import GoSem.ClaimJoined
import GoSem.ClaimMapViews
import Derived.JoinedTies
import Derived.KernelRfl
namespace Go.Proofs.Qxb6614869aFmt
/- THE CELL 'sum', in the pinned program and in every row, IS THE sha256 OF THE DUMP (.gsa) THAT Qxb6614869aFmtProg.lean LOADS. Nothing in Lean hashes anything: it is a label: what it is worth is what the hold of that sum in a sandbox is worth. -/
noncomputable def Tryf.pinned : Pinned := { name := "qxb6614869afmt", sum := "23d7c6458de03a1bc0e491fd5ee87ba1dfb16de91aa5281a1e8883fc11c0eac5", checked := Tryf.checked }
namespace Rows
def none {H : Type} : Left H := { results := [], args := [] }

/- WHAT THE LISTED PACKAGE-LEVEL VARIABLES READ AS WHEN THE CALL BEGINS. Each datum BY PROGRAM (the guide's laid-datum.mjs) off the statement by which the dump's own 'gosem.cut.vars' lays the variable. In a bare row this is a premise. The card (Qxb6614869aFmtCards.lean) ties it to the program's text. -/
def laid_errors_errorType {H : Type} : DataW H := .iface "internal/reflectlite.rtype" (.agg [.ptr (.lit (.string [101, 114, 114, 111, 114]))])

/-- 'zzlaws_root_b1.FnReasonOfClassifiesMappingRefusals': WHATEVER THE INPUT: true; the input reads as it did. -/
def fnReasonOfClassifiesMappingRefusalsSpec : ChangeSpec := { name := "fnReasonOfClassifiesMappingRefusals", fn := fun _ => fun
  | [d1, d2] => { results := [.lit (.bool true)], args := [d1, d2] }
  | _ => none }
def fnReasonOfClassifiesMappingRefusalsRow : OpenClaim := { program := "qxb6614869afmt", sum := "23d7c6458de03a1bc0e491fd5ee87ba1dfb16de91aa5281a1e8883fc11c0eac5", func := "example.com/floodmark/floodmark/zzlaws_root_b1.FnReasonOfClassifiesMappingRefusals", spec := "fnReasonOfClassifiesMappingRefusals", stops := ["fmt.Sprintf, its operands' methods called"], inPlace := ["fmt.Sprintf", "internal/reflectlite.ValueOf", "(internal/reflectlite.Value).Type", "(internal/reflectlite.Value).IsNil", "internal/reflectlite.TypeOf", "(internal/reflectlite.Value).Elem", "(internal/reflectlite.Value).Set"], unfollowed := true, recurses := true, named := ["encoding/binary.BigEndian", "errors.errorType"], apart := false, laid := [("errors.errorType", laid_errors_errorType)] }
/-- NO THEOREM (fmt's text is open here; it may be false): for the released tool's asking of the row's closed facts alone. THE STATEMENT IS 'FnReasonOfClassifiesMappingRefusalsToldSaid' (Qxb6614869aFmtCards.lean). -/
def FnReasonOfClassifiesMappingRefusalsFormAsk : Prop := fnReasonOfClassifiesMappingRefusalsRow.holds Tryf.pinned (OpenSpec.ofChange fnReasonOfClassifiesMappingRefusalsSpec)

/-- ITS FALSE NEIGHBOUR: 'it returns false'. Refute it at one input. -/
def fnReasonOfClassifiesMappingRefusalsWrong : ChangeSpec := { name := "fnReasonOfClassifiesMappingRefusals", fn := fun _ => fun
  | [d1, d2] => { results := [.lit (.bool false)], args := [d1, d2] }
  | _ => none }
def FnReasonOfClassifiesMappingRefusalsWrongFormAsk : Prop := fnReasonOfClassifiesMappingRefusalsRow.holds Tryf.pinned (OpenSpec.ofChange fnReasonOfClassifiesMappingRefusalsWrong)

end Rows
end Go.Proofs.Qxb6614869aFmt
