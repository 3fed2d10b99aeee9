/-
  FnReasonOfClassifiesMappingRefusals: the told row, and its told and tied card.
-/
import Derived.Test.Qxb6614869aFmtLaw3
import Derived.Test.Qxb6614869aFmtCards
import Derived.Test.Qxb6614869aFmtTie
import Derived.ProofKit
import Derived.OpenShut
import Derived.ChangeSlices
import Derived.LaidLaws
import Derived.LaidHandle
import Derived.Stop.Joined
import Derived.Stop.JoinedAt
import Derived.Stop.JoinedTold
import Derived.Deep.DeepWitnessRef
import Derived.SevenTiedAt
namespace Go.Proofs.Qxb6614869aFmt.reason
open Go.ChangeShapes Go.WideShapes Go.ChangeAt Go.RowKit
open Go.Extern.Stop Go.Stop Go.Extern
set_option linter.unusedVariables false
set_option linter.unusedSimpArgs false

theorem own : ownKnob Tryf.prog.godebug = none := by kernel_rfl
theorem laidOut : laidOutB Tryf.prog = true := by kernel_rfl
theorem cells5 : Tryf.prog.cellsOf 5 = 1 := by kernel_rfl

theorem law_any (F : Interp) (p : Option Addr) (n cap : Nat) (a : Int) (byt : Nat → Int) (w : World) (hF : F.told.answers w.tape) (hE : Ety w) (hA : Arg w p n byt) : Calls Tryf.prog 3 #[.slice p n cap, .int .i64 a] w (LawPost w) := by
  by_cases hn : n ≤ 1048576
  · by_cases ha : a < 0 ∨ (n : Int) < a
    · exact law_out p n cap a w hn ha
    · obtain ⟨off, rfl⟩ : ∃ off : Nat, a = (off : Int) := ⟨a.toNat, by omega⟩
      rcases hA with ⟨rfl, rfl⟩ | ⟨ad, rfl, hA⟩
      · obtain rfl : off = 0 := by omega
        exact law_nil F cap w hF hE
      · exact law_some F ad n cap off byt w hF hE hn (by omega) hA
  · exact law_big p n cap a w (by omega)

theorem arg_of {H : Type} {enc : TypeId × Value → H} {W : World} {ao : Option Addr} {len cap fuel : Nat} {x : DataW H × List MemPlace}
    (hf : DataW.trod enc Tryf.prog W 0 (fun _ => true) true fuel 22 [.slice ao len cap] = some x) : ∃ byt : Nat → Int, Arg W ao len byt := by
  rcases open_ints Tryf.underlying22 Tryf.underlying5 cells5 hf with ⟨hcs, _⟩ | ⟨a, len', cap', zs, hcs, _, hl, hm, hz, _, hcell, hwf⟩
  · simp at hcs
    obtain ⟨rfl, rfl, rfl⟩ := hcs
    exact ⟨fun _ => 0, .inl ⟨rfl, rfl⟩⟩
  · simp at hcs
    obtain ⟨rfl, rfl, rfl⟩ := hcs
    simp only [if_true] at hz
    refine ⟨fun k => zs.getD k 0, .inr ⟨a, rfl, fun j hj => ?_⟩⟩
    have hk' : j < zs.length := by omega
    have hw := hwf (zs.getD j 0) (by simp [List.getD, hk'])
    have hb := FmtText.int_bounds hw
    simp [IntKind.min, IntKind.max, IntKind.signed, IntKind.bits] at hb
    refine ⟨hcell j hk', ?_, ?_⟩
    · simp only [List.getD_eq_getElem?_getD] at *; omega
    · simp only [List.getD_eq_getElem?_getD] at *; omega

abbrev spec : OpenSpec := OpenSpec.ofChange Rows.fnReasonOfClassifiesMappingRefusalsSpec
abbrev row : OpenClaim := Rows.fnReasonOfClassifiesMappingRefusalsRow

theorem et : Tryf.prog.globalNamed "errors.errorType" = some 0 := by kernel_rfl
theorem oneRow : ((List.range 121).filter fun t => Tryf.prog.rowNamed t [101, 114, 114, 111, 114]) = [27] := by kernel_rfl
theorem size : Tryf.prog.types.size = 121 := by kernel_rfl

/-- what the listed variable gives: its one cell -/
theorem handle_of_laid {W : World} (h : laidMetH Tryf.prog row.laid W) : Ety W := by
  have h' : laidMet Tryf.prog [] W ∧ handlesMet Tryf.prog row.laid W := h
  obtain ⟨name, u, ty, e1, e2, e3, e4, e5⟩ := h'.2 _ (List.mem_singleton.2 rfl)
  have en : name = [101, 114, 114, 111, 114] := (Option.some.inj e1).symm
  subst en
  obtain rfl : u = 75 := Option.some.inj (e2.symm.trans (by kernel_rfl))
  have hm : ty ∈ (List.range 121).filter fun t => Tryf.prog.rowNamed t [101, 114, 114, 111, 114] := List.mem_filter.2 ⟨List.mem_range.2 (by rw [← size]; exact e3), e4⟩
  rw [oneRow] at hm
  obtain rfl := List.mem_singleton.1 hm
  have hh : typeHandle Tryf.prog 27 = .pointer (some ⟨2, 27, none⟩) := by kernel_rfl
  rw [hh] at e5
  have := World.var?_cell et e5 0
  simpa [Ety] using this

/-- the variable's cell, laid -/
def fill : Obj → Obj
  | .cells _ t frozen => .cells #[.iface 75 (.agg #[.pointer (some ⟨2, 27, none⟩)])] t frozen
  | o => o
/-- a world that meets the condition: the settled one, the variable's cell laid -/
def laidOver (w0 : World) : World := { w0 with heap := w0.heap.modify 0 fill }
theorem laidWorld_met (os : Os) (args : Array Value) : laidMetH Tryf.prog row.laid ((laidOver (World.holding Tryf.prog os ⟨#[], #[], []⟩)).forCall (fun _ _ => 0) ⟨#[], args, []⟩).memory :=
  laidMetH_of_parts (laidMet_nil _ _) (by kernel_rfl)

theorem witness_row (os : Os) {H : Type} (enc : TypeId × Value → H) :
    spec.preRow enc Tryf.prog Tryf.f3 row.domain false row.laid ((laidOver (World.holding Tryf.prog os ⟨#[], #[], []⟩)).forCall (fun _ _ => 0) ⟨#[], #[.slice none 0 0, .int .i64 0], []⟩).memory #[.slice none 0 0, .int .i64 0] := by
  have hw : (DataW.whole enc Tryf.prog ((laidOver (World.holding Tryf.prog os ⟨#[], #[], []⟩)).forCall (fun _ _ => 0) ⟨#[], #[.slice none 0 0, .int .i64 0], []⟩).memory Tryf.f3.params.toList spec.vars false #[Value.slice none 0 0, Value.int .i64 0].toList 8).map (fun x => (x.1, x.2.1)) =
      some ([.nil, .lit (.int .i64 0)], []) := by kernel_rfl
  obtain ⟨⟨x1, x2, x3⟩, hx, hx1⟩ := Option.map_eq_some_iff.1 hw
  simp only [Prod.mk.injEq] at hx1
  obtain ⟨rfl, rfl⟩ := hx1
  exact OpenSpec.preRow_of_cond 8 hx (by kernel_rfl) (fun k hk => by cases hk) (by kernel_rfl) (laidWorld_met os _)

set_option maxRecDepth 100000 in
set_option maxHeartbeats 2000000 in
theorem lifted (os : Os) (started : os.Started) (H : Type) (enc : TypeId × Value → H) :
    ReturnsInTold none {} Tryf.checked os 3 .any Input.okWide (spec.preRow enc Tryf.prog Tryf.f3 row.domain false row.laid) (fun F => (spec.at F).post enc Tryf.prog Tryf.f3 false true false false) (aloneAtReturn Tryf.prog) nothingAlways := by
  refine returnsInTold_of_row (C := Tryf.checked) (s := spec) (by kernel_rfl) own started (by kernel_rfl) Tryf.func3
    (OpenSpec.witness_stopped_atRef (enc := enc) (C := Tryf.checked) false (laidOver (World.holding Tryf.prog os ⟨#[], #[], []⟩)) #[.slice none 0 0, .int .i64 0] rfl (by kernel_rfl) (by kernel_rfl) (by kernel_rfl) (witness_row os enc)) ?_
  intro F W base args ds gs before _ hF hval0 hW _ _ _ hL _
  have hval : ∀ (j : Nat) t v, Tryf.f3.params[j]? = some t → args[j]? = some v → Value.okWide Tryf.prog W .any base t v := hval0
  have hW' := hW
  obtain ⟨p, q, hA0, hV, rfl, hfz, hnd⟩ := hW
  have hA : DataW.TrodAll enc Tryf.prog W 0 (fun _ => true) true Tryf.f3.params.toList args.toList ds p := hA0
  rw [Tryf.params3] at hA hval
  obtain ⟨v0, vs0, d0, ds0, p0, q0, hargs, rfl, rfl, h0, r0⟩ := trodAll_cons hA
  obtain ⟨v1, vs1, d1, ds1, p1, q1, rfl, rfl, rfl, h1, r1⟩ := trodAll_cons r0
  obtain ⟨rfl, rfl, rfl⟩ := trodAll_nil r1
  obtain rfl : args = #[v0, v1] := by cases args; simp_all
  obtain ⟨rfl, rfl⟩ := trodVars_none hV
  obtain ⟨ao, len, cap, rfl⟩ := okWide_slice Tryf.underlying22 (hval 0 22 v0 rfl rfl)
  obtain ⟨a, rfl, rfl, rfl, w1⟩ := open_int Tryf.underlying3 (hval 1 3 v1 rfl rfl) h1
  have k0 := h0
  have lt0 : ∀ x ∈ p0, x.block < W.heap.size := by obtain ⟨m, hm⟩ := k0; exact DataW.trod_lt m _ _ _ hm
  obtain ⟨byt, hr⟩ : ∃ byt : Nat → Int, Arg W ao len byt := by
    obtain ⟨fuel, hf⟩ := h0
    exact arg_of hf
  clear hA0 hval0
  refine (law_any F ao len cap a byt W hF (handle_of_laid hL) hr).mono fun e W' ⟨he, bel⟩ => ?_
  subst he
  exact ⟨_, rfl, _, _, _, [], _, [], hW', trodAll_mk1 (shut_bool Tryf.underlying4 _),
    (trodAll_cons_mk (Below.trod laidOut (by kernel_rfl) (of_decide_eq_true (by kernel_rfl)) k0 bel lt0) (trodAll_cons_mk (shut_int Tryf.underlying3 w1) trodAll_mk0)), rfl, bel.frame _, fun h => by cases h⟩

theorem stops : Tryf.pinned.checked.prog.stops = row.stops := by kernel_rfl
theorem stopKnobs : Tryf.pinned.checked.prog.stopKnobs = [] := by kernel_rfl
theorem quiet (os : Os) : Stop.quiet Tryf.pinned.checked.prog os := by
  intro k hk
  rw [stopKnobs] at hk
  cases hk

theorem proved : Rows.FnReasonOfClassifiesMappingRefusalsToldSaid :=
  Claim7.holds_of_told_tied_any_at .later 3 Tryf.f3 _ [] [] _ _ _ _ _ (by kernel_rfl) rfl rfl rfl laidOut (by kernel_rfl) rfl ⟨rfl, rfl, rfl, rfl, rfl, rfl, rfl⟩ rfl rfl (by kernel_rfl) (by kernel_rfl) Tryf.func3 (by kernel_rfl)
    (of_decide_eq_true (by kernel_rfl)) (by unfold Func.isWrapper; first | (rw [if_pos (by decide +kernel)]; kernel_rfl) | (rw [if_neg (by decide +kernel)]; exact ⟨rfl, rfl⟩)) stops.symm rfl stopKnobs.symm (by kernel_rfl)
    (by kernel_rfl) (by kernel_rfl) (by kernel_rfl) (by kernel_rfl) (by kernel_rfl) (by kernel_rfl) (by kernel_rfl) (by kernel_rfl) (by kernel_rfl) rfl (by kernel_rfl) rfl rfl
    rfl rfl
    rfl (by kernel_rfl) (by kernel_rfl) (by kernel_rfl) (by decide) (by kernel_rfl) fnReasonOfClassifiesMappingRefusals_row_tie
    (OpenClaim.moreEntering_of (by kernel_rfl) (by kernel_rfl) (by kernel_rfl) (by kernel_rfl) (by kernel_rfl) (by kernel_rfl) (by kernel_rfl) (by kernel_rfl) (by kernel_rfl) (by kernel_rfl))
    ⟨_, WideRow.started_initial, quiet _⟩
    (fun os started _ H enc _ => lifted os started H enc)

end Go.Proofs.Qxb6614869aFmt.reason
