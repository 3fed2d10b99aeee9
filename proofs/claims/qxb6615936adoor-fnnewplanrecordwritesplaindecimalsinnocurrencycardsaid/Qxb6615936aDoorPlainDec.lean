/-
  FnNewPlanRecordWritesPlainDecimalsInNoCurrency: the row and its card.
-/
import Derived.Test.Qxb6615936aDoorWalk3
import Derived.Test.Qxb6615936aDoorCards
import Derived.Test.Qxb6615936aDoorTie
import Derived.Deep.DeepHandedRow
import Derived.ProofKit
import Derived.OpenShut
import Derived.ShutString
import Derived.ChangeSlices
import Derived.Lib.LaidTab
import Derived.Lib.AppendIntMem
import Derived.Stop.LaidErr
import Derived.SevenTiedAt
namespace Go.Proofs.Qxb6615936aDoor.plainDec
open Go.ChangeShapes Go.WideShapes Go.ChangeAt Go.RowKit
open Go.ChangeMaps (open_string shut_string)

theorem own : ownKnob Tryd.prog.godebug = none := by kernel_rfl
theorem laidOut : laidOutB Tryd.prog = true := by kernel_rfl
theorem cells2 : Tryd.prog.cellsOf 2 = 1 := by kernel_rfl

theorem amts_of {H : Type} {enc : TypeId × Value → H} {W : World} {ao : Option Addr} {len cap fuel : Nat} {x : DataW H × List MemPlace}
    (hf : DataW.trod enc Tryd.prog W 0 (fun _ => true) true fuel 22 [.slice ao len cap] = some x) : len ≤ maxLen ∧ ∃ (b off : Nat) (A : Nat → Int), Amts W ao b off len A := by
  rcases open_ints Tryd.underlying22 Tryd.underlying2 cells2 hf with ⟨hcs, _⟩ | ⟨a, len', cap', zs, hcs, _, hl, hm, hz, _, hcell, hwf⟩
  · simp at hcs
    obtain ⟨rfl, rfl, rfl⟩ := hcs
    exact ⟨Nat.zero_le _, 0, 0, fun _ => 0, fun h => by omega, fun h => by omega, fun k h => by omega, fun k h => by omega, fun k h => by omega⟩
  · simp at hcs
    obtain ⟨rfl, rfl, rfl⟩ := hcs
    simp only [if_true] at hz
    obtain ⟨b, off, spot⟩ := a
    have hspot : 0 < len → spot = none := fun h => by simpa [Addr.add] using World.cell?_spot (hcell 0 (by omega))
    have hrange : ∀ k, k < len → -9223372036854775808 ≤ zs.getD k 0 ∧ zs.getD k 0 ≤ 9223372036854775807 := fun k hk => by
      have hk' : k < zs.length := by omega
      have hw := hwf (zs.getD k 0) (by simp [List.getD, hk'])
      simp [Lit.wf] at hw
      have e : IntKind.i64.min = -9223372036854775808 := by decide +kernel
      simp only [List.getD_eq_getElem?_getD] at *
      omega
    have hc : ∀ k, k < len → W.cell? ⟨b, off + k, none⟩ = some (.int .i64 (zs.getD k 0)) := fun k hk => by
      have h := hcell k (by omega)
      have e := hspot (by omega)
      subst e
      rwa [add_plain] at h
    refine ⟨by omega, b, off, fun k => zs.getD k 0, fun h => ?_, fun h => ?_, hc, fun k hk => (hrange k hk).1, fun k hk => (hrange k hk).2⟩
    · rw [hspot h]
    · have := World.block_lt_of_cell? W _ (hc 0 h)
      exact this

theorem gP : Tryd.prog.globalNamed powName = some 0 := by kernel_rfl
theorem gPType : (Tryd.prog.globals[0]?).map (·.type) = some 70 := by kernel_rfl
theorem cells45 : Tryd.prog.cellsOf 45 = 1 := by kernel_rfl
theorem cells70 : Tryd.prog.cellsOf 70 = 20 := by kernel_rfl

/-- The three tables as the text lays them: the witness' world. -/
def tab32 : Array Value := #[.int .u8 0, .int .u8 1, .int .u8 28, .int .u8 2, .int .u8 29, .int .u8 14, .int .u8 24, .int .u8 3, .int .u8 30, .int .u8 22, .int .u8 20, .int .u8 15, .int .u8 25, .int .u8 17, .int .u8 4, .int .u8 8, .int .u8 31, .int .u8 27, .int .u8 13, .int .u8 23, .int .u8 21, .int .u8 19, .int .u8 16, .int .u8 7, .int .u8 26, .int .u8 12, .int .u8 18, .int .u8 6, .int .u8 11, .int .u8 5, .int .u8 10, .int .u8 9]
def tab64 : Array Value := #[.int .u8 0, .int .u8 1, .int .u8 56, .int .u8 2, .int .u8 57, .int .u8 49, .int .u8 28, .int .u8 3, .int .u8 61, .int .u8 58, .int .u8 42, .int .u8 50, .int .u8 38, .int .u8 29, .int .u8 17, .int .u8 4, .int .u8 62, .int .u8 47, .int .u8 59, .int .u8 36, .int .u8 45, .int .u8 43, .int .u8 51, .int .u8 22, .int .u8 53, .int .u8 39, .int .u8 33, .int .u8 30, .int .u8 24, .int .u8 18, .int .u8 12, .int .u8 5, .int .u8 63, .int .u8 55, .int .u8 48, .int .u8 27, .int .u8 60, .int .u8 41, .int .u8 37, .int .u8 16, .int .u8 46, .int .u8 35, .int .u8 44, .int .u8 21, .int .u8 52, .int .u8 32, .int .u8 23, .int .u8 11, .int .u8 54, .int .u8 26, .int .u8 40, .int .u8 15, .int .u8 34, .int .u8 20, .int .u8 31, .int .u8 10, .int .u8 25, .int .u8 14, .int .u8 19, .int .u8 9, .int .u8 13, .int .u8 8, .int .u8 7, .int .u8 6]
def fill (c : Array Value) : Obj → Obj
  | .cells _ t frozen => .cells c t frozen
  | o => o
def laidOver (w0 : World) : World :=
  { w0 with heap := ((w0.heap.modify 0 (fill (Lib.pow10Tab.map fun z => Value.int .u64 z).toArray)).modify 1 (fill tab32)).modify 2 (fill tab64) }
theorem laid_met (os : Os) (args : Array Value) : laidMet Tryd.prog Rows.fnNewPlanRecordWritesPlainDecimalsInNoCurrencyRow.laid ((laidOver (World.holding Tryd.prog os ⟨#[], #[], []⟩)).forCall (fun _ _ => 0) ⟨#[], args, []⟩).memory :=
  laidMet_of_run' 8 (by kernel_rfl) (by kernel_rfl)

abbrev spec : OpenSpec := OpenSpec.ofChange Rows.fnNewPlanRecordWritesPlainDecimalsInNoCurrencySpec
abbrev row : OpenClaim := Rows.fnNewPlanRecordWritesPlainDecimalsInNoCurrencyRow

theorem witness_row (os : Os) {H : Type} (enc : TypeId × Value → H) :
    spec.preRow enc Tryd.prog Tryd.f3 row.domain false row.laid ((laidOver (World.holding Tryd.prog os ⟨#[], #[], []⟩)).forCall (fun _ _ => 0) ⟨#[], #[.string ByteArray.empty, .string ByteArray.empty, .int .i64 0, .int .i64 0, .int .i64 0, .slice none 0 0], []⟩).memory #[.string ByteArray.empty, .string ByteArray.empty, .int .i64 0, .int .i64 0, .int .i64 0, .slice none 0 0] := by
  have hw : (DataW.whole enc Tryd.prog ((laidOver (World.holding Tryd.prog os ⟨#[], #[], []⟩)).forCall (fun _ _ => 0) ⟨#[], #[.string ByteArray.empty, .string ByteArray.empty, .int .i64 0, .int .i64 0, .int .i64 0, .slice none 0 0], []⟩).memory Tryd.f3.params.toList spec.vars false #[Value.string ByteArray.empty, Value.string ByteArray.empty, Value.int .i64 0, Value.int .i64 0, Value.int .i64 0, Value.slice none 0 0].toList 8).map (fun x => (x.1, x.2.1)) =
      some ([.lit (.string []), .lit (.string []), .lit (.int .i64 0), .lit (.int .i64 0), .lit (.int .i64 0), .nil], []) := by kernel_rfl
  obtain ⟨⟨x1, x2, x3⟩, hx, hx1⟩ := Option.map_eq_some_iff.1 hw
  simp only [Prod.mk.injEq] at hx1
  obtain ⟨rfl, rfl⟩ := hx1
  exact OpenSpec.preRow_of_cond 8 hx (by kernel_rfl) (fun k hk => by cases hk) (by kernel_rfl) (laid_met os _)

set_option maxRecDepth 100000 in
set_option maxHeartbeats 2000000 in
theorem lifted (os : Os) (started : os.Started) (H : Type) (enc : TypeId × Value → H) (F : Stop.Interp) :
    ReturnsInHanded {} Tryd.checked os 3 .any (spec.preRow enc Tryd.prog Tryd.f3 row.domain false row.laid) ((spec.at F).post enc Tryd.prog Tryd.f3 false true false false) := by
  refine returnsInHanded_of_row (C := Tryd.checked) (s := spec) own started (by kernel_rfl) Tryd.func3
    (witness_row_at (enc := enc) (C := Tryd.checked) false (laidOver (World.holding Tryd.prog os ⟨#[], #[], []⟩)) #[.string ByteArray.empty, .string ByteArray.empty, .int .i64 0, .int .i64 0, .int .i64 0, .slice none 0 0] rfl (by kernel_rfl) (by kernel_rfl) (by kernel_rfl) (witness_row os enc)) ?_
  intro W base args ds gs before hval0 hW _ hcond0 hsz0 hL hsh _
  clear hcond0 hsz0 hsh
  have hval : ∀ (j : Nat) t v, Tryd.f3.params[j]? = some t → args[j]? = some v → Value.okWide Tryd.prog W .any base t v := hval0
  have hW' := hW
  obtain ⟨p, q, hA0, hV, rfl, hfz, hnd⟩ := hW
  have hA : DataW.TrodAll enc Tryd.prog W 0 (fun _ => true) true Tryd.f3.params.toList args.toList ds p := hA0
  rw [Tryd.params3] at hA hval
  obtain ⟨v0, vs0, d0, ds0, p0, q0, hargs, rfl, rfl, h0, r0⟩ := trodAll_cons hA
  obtain ⟨v1, vs1, d1, ds1, p1, q1, rfl, rfl, rfl, h1, r1⟩ := trodAll_cons r0
  obtain ⟨v2, vs2, d2, ds2, p2, q2, rfl, rfl, rfl, h2, r2⟩ := trodAll_cons r1
  obtain ⟨v3, vs3, d3, ds3, p3, q3, rfl, rfl, rfl, h3, r3⟩ := trodAll_cons r2
  obtain ⟨v4, vs4, d4, ds4, p4, q4, rfl, rfl, rfl, h4, r4⟩ := trodAll_cons r3
  obtain ⟨v5, vs5, d5, ds5, p5, q5, rfl, rfl, rfl, h5, r5⟩ := trodAll_cons r4
  obtain ⟨rfl, rfl, rfl⟩ := trodAll_nil r5
  obtain rfl : args = #[v0, v1, v2, v3, v4, v5] := by cases args; simp_all
  obtain ⟨rfl, rfl⟩ := trodVars_none hV
  obtain ⟨a0, rfl, rfl, rfl, w0⟩ := open_string Tryd.underlying9 (hval 0 9 v0 rfl rfl) h0
  obtain ⟨a1, rfl, rfl, rfl, w1⟩ := open_string Tryd.underlying9 (hval 1 9 v1 rfl rfl) h1
  obtain ⟨a2, rfl, rfl, rfl, w2⟩ := open_int Tryd.underlying2 (hval 2 2 v2 rfl rfl) h2
  obtain ⟨a3, rfl, rfl, rfl, w3⟩ := open_int Tryd.underlying2 (hval 3 2 v3 rfl rfl) h3
  obtain ⟨a4, rfl, rfl, rfl, w4⟩ := open_int Tryd.underlying3 (hval 4 3 v4 rfl rfl) h4
  obtain ⟨ao, len, cap, rfl⟩ := okWide_slice Tryd.underlying22 (hval 5 22 v5 rfl rfl)
  have k5 := h5
  have lt5 : ∀ x ∈ p5, x.block < W.heap.size := by obtain ⟨m, hm⟩ := k5; exact DataW.trod_lt m _ _ _ hm
  obtain ⟨hlen, b, off, A, hr⟩ : len ≤ maxLen ∧ ∃ (b off : Nat) (A : Nat → Int), Amts W ao b off len A := by
    obtain ⟨fuel, hf⟩ := h5
    exact amts_of hf
  have htab : Lib.TabIs Tryd.prog W powName .u64 Lib.pow10Tab := Lib.tabIs_of_head gP gPType Tryd.underlying70 Tryd.underlying45 cells45 cells70 hL.tail.tail
  have r : ∀ z : Int, (Lit.int .i64 z).wf = true → -9223372036854775808 ≤ z ∧ z ≤ 9223372036854775807 := by
    intro z hz
    simp [Lit.wf] at hz
    have e : IntKind.i64.min = -9223372036854775808 := by decide +kernel
    omega
  clear hA0 hval0
  refine (law3 a0 a1 a2 a3 a4 ao b off len cap A W hr w0 w1 hlen (r _ w2).1 (r _ w2).2 (r _ w3).1 (r _ w3).2 (Lib.tabBelow_of_tabIs htab)).mono fun e W' ⟨he, bel⟩ => ?_
  subst he
  exact ⟨_, rfl, _, _, _, [], _, [], hW', trodAll_mk1 (shut_bool Tryd.underlying4 _), (trodAll_cons_mk (shut_string Tryd.underlying9 w0) (trodAll_cons_mk (shut_string Tryd.underlying9 w1) (trodAll_cons_mk (shut_int Tryd.underlying2 w2) (trodAll_cons_mk (shut_int Tryd.underlying2 w3) (trodAll_cons_mk (shut_int Tryd.underlying3 w4)
    (trodAll_cons_mk (Below.trod laidOut (by kernel_rfl) (of_decide_eq_true (by kernel_rfl)) k5 bel lt5) trodAll_mk0)))))), rfl, bel.frame _, fun h => by cases h⟩

theorem over : Rows.FnNewPlanRecordWritesPlainDecimalsInNoCurrencySaid :=
  OpenClaim.holds_of_cond 3 Tryd.f3 rfl rfl rfl rfl rfl rfl rfl ⟨rfl, rfl, rfl, rfl, rfl⟩ rfl rfl rfl rfl rfl (by kernel_rfl) Tryd.func3 (by kernel_rfl)
    (of_decide_eq_true (by kernel_rfl)) (by unfold Func.isWrapper; first | (rw [if_pos (by decide +kernel)]; kernel_rfl) | (rw [if_neg (by decide +kernel)]; exact ⟨rfl, rfl⟩))
    (fun os started H enc _ F0 => by rw [OpenClaim.pre_eq_preRow]; exact lifted os started H enc F0)
end Go.Proofs.Qxb6615936aDoor.plainDec
