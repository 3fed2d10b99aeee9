/-
  DERIVED. GIVEN WITH THE SEED: THE CARDS: each row of Qxb6615936aDoorRows.lean that lists a variable, with what it lists TIED to the program's text (the seventh form; the later family's looks); each row that meets fmt, with fmt's text TOLD by the authors' own Lean function (tested against real Go, not proved from fmt's source: count such statements apart). THE CARD IS WHAT COUNTS. Prove the row's statement (the work); the ties are given (Qxb6615936aDoorTie.lean); close each card by the builder's one call (the guide's Derived/Test/ToyasCard.lean, 'card_holds'). Laid BY PROGRAM, IN A SANDBOX (cutbox-door.mjs). By AI agents, Wed Nov 11 2026. No macro, syntax, notation, axiom, sorry.
-/
import Derived.Test.Qxb6615936aDoorRows
import GoSem.ClaimSeven
namespace Go.Proofs.Qxb6615936aDoor
namespace Rows

/-- THE TIED CARD OF 'zzlaws_internal_book_b1.FnNewPlanRecordWritesPlainDecimalsInNoCurrency'. -/
def fnNewPlanRecordWritesPlainDecimalsInNoCurrencyCard : Claim7 := { stood := { row := fnNewPlanRecordWritesPlainDecimalsInNoCurrencyRow, standIns := [], harness := (true, "533a7f2cd152a093fd36e273b12d4601458983f8ea7733b847b4e179813b9ca2"), looks := false }, kinds := [], alts := [], laidByText := true, laidKinds := [.data, .data, .data], laidTests := true, laidLooks := .later }
def FnNewPlanRecordWritesPlainDecimalsInNoCurrencyCardSaid : Prop := Claim7.holds Tryd.pinned (.plain (OpenSpec.ofChange fnNewPlanRecordWritesPlainDecimalsInNoCurrencySpec)) fnNewPlanRecordWritesPlainDecimalsInNoCurrencyCard

/-- THE TIED CARD OF 'zzlaws_internal_book_b1.FnNewPlanRecordInstallmentsSplitAnywhere'. -/
def fnNewPlanRecordInstallmentsSplitAnywhereCard : Claim7 := { stood := { row := fnNewPlanRecordInstallmentsSplitAnywhereRow, standIns := [], harness := (true, "533a7f2cd152a093fd36e273b12d4601458983f8ea7733b847b4e179813b9ca2"), looks := false }, kinds := [], alts := [], laidByText := true, laidKinds := [.data, .data, .data], laidTests := true, laidLooks := .later }
def FnNewPlanRecordInstallmentsSplitAnywhereCardSaid : Prop := Claim7.holds Tryd.pinned (.plain (OpenSpec.ofChange fnNewPlanRecordInstallmentsSplitAnywhereSpec)) fnNewPlanRecordInstallmentsSplitAnywhereCard
end Rows
end Go.Proofs.Qxb6615936aDoor
