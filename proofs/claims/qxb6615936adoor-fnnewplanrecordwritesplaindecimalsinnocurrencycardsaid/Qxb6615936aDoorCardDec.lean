/-
  The tied card.
-/
import Derived.Test.Qxb6615936aDoorPlainDec
namespace Go.Proofs.Qxb6615936aDoor.plainDec
open Go

theorem proved : Rows.FnNewPlanRecordWritesPlainDecimalsInNoCurrencyCardSaid :=
  Claim7.holds_tied_plain_at .later [] [.data, .data, .data] true (true, "533a7f2cd152a093fd36e273b12d4601458983f8ea7733b847b4e179813b9ca2") false
    over (fun _ h => by cases h) (by kernel_rfl) (fun _ h => by cases h) fnNewPlanRecordWritesPlainDecimalsInNoCurrency_row_tie rfl ⟨rfl, rfl⟩ (by kernel_rfl) rfl
    (fun f fn hf hfn => by
      obtain rfl : f = 3 := Option.some.inj (hf.symm.trans (by kernel_rfl))
      obtain rfl : fn = Tryd.f3 := (Option.some.inj (Tryd.func3.symm.trans hfn)).symm
      exact ⟨by kernel_rfl, fun j t ht => by
        rw [Tryd.params3] at ht
        have h3 : t = 9 ∨ t = 2 ∨ t = 3 ∨ t = 22 := by
          rcases j with _ | _ | _ | _ | _ | _ | j <;> simp at ht <;> (first | (subst ht; simp) | skip)
        rcases h3 with rfl | rfl | rfl | rfl
        · exact (show Tryd.prog.wantsStandIn 9 = false by kernel_rfl)
        · exact (show Tryd.prog.wantsStandIn 2 = false by kernel_rfl)
        · exact (show Tryd.prog.wantsStandIn 3 = false by kernel_rfl)
        · exact (show Tryd.prog.wantsStandIn 22 = false by kernel_rfl)⟩)
    (by kernel_rfl)
end Go.Proofs.Qxb6615936aDoor.plainDec
