/-
  From the argument's reading to what the walks ask of it.
-/
import Derived.Test.Qxb6614869aRows
import Derived.Test.Qxb6614869aHeap
import Derived.ProofKit
import Derived.OpenShut
import Derived.ChangeOld
import Derived.Deep.Slices
namespace Go.Proofs.Qxb6614869a
open Go.ChangeShapes Go.WideShapes Go.ChangeAt Go.RowKit

theorem own : ownKnob Try.prog.godebug = none := by kernel_rfl
theorem laidOut : laidOutB Try.prog = true := by kernel_rfl
theorem Try.cells31 : Try.prog.cellsOf 31 = 64 := by kernel_rfl
theorem Try.cells29 : Try.prog.cellsOf 29 = 32 := by kernel_rfl
theorem Try.cells5 : Try.prog.cellsOf 5 = 1 := by kernel_rfl

/-- 32 bytes, read as an array. -/
theorem bytes_of {H : Type} {enc : TypeId × Value → H} {w : World} {base fuel : Nat} {sp : Nat → Bool} {held : Bool} {cs : List Value} {x : DataW H × List MemPlace} (h : DataW.trod enc Try.prog w base sp held fuel 29 cs = some x) :
    ∀ j, j < 32 → ∃ n : Int, cs[j]? = some (.int .u8 n) ∧ 0 ≤ n ∧ n ≤ 255 := by
  intro j hj
  obtain ⟨xs, m, _, _, hl, hx, hel⟩ := DataW.trod_array Try.underlying29 h
  rw [Try.cells29] at hl
  have h1 := hel j hj
  rw [Try.cells5, Nat.mul_one, List.getElem?_eq_getElem (by omega)] at h1
  obtain ⟨n, hn, _, hw⟩ := DataW.trod_int Try.underlying5 h1
  have h2 : (List.take 1 (List.drop j cs))[0]? = some (.int .u8 n) := by rw [hn]; rfl
  rw [List.getElem?_take_of_lt (by omega), List.getElem?_drop, Nat.add_zero] at h2
  exact ⟨n, h2, bounds_u8 hw⟩

theorem src_of {H : Type} {enc : TypeId × Value → H} {w : World} {ao : Option Addr} {len cap fuel : Nat} {x : DataW H × List MemPlace}
    (h : DataW.trod enc Try.prog w 0 (fun _ => true) true fuel 22 (Value.slice ao len cap).cells.toList = some x) :
    len ≤ maxLen ∧ ∃ (hb off : Nat) (S : Nat → Int), Src w ao hb off len S := by
  rcases Deep.open_slice Try.underlying22 h with ⟨hcs, _⟩ | ⟨a, l, c, m, n, D, Pl, hcs, _, hl, hm, hmm, _, hel⟩
  · simp [Value.cells] at hcs
    obtain ⟨rfl, rfl, rfl⟩ := hcs
    exact ⟨Nat.zero_le _, 0, 0, fun _ => 0, ⟨fun h => by omega, fun h => by omega, fun c hc => by omega, fun c hc => by omega, fun c hc => by omega⟩⟩
  · simp [Value.cells] at hcs
    obtain ⟨rfl, rfl, rfl⟩ := hcs
    simp only [if_true] at hmm
    subst hmm
    rw [Try.cells31] at hel
    have key : ∀ q, q < len * 64 → ∃ z : Int, w.cell? ((a.add (q / 64 * 64)).add (q % 64)) = some (.int .u8 z) ∧ 0 ≤ z ∧ z ≤ 255 := by
      intro q hq
      obtain ⟨cs', h1, h2⟩ := hel (q / 64) (by omega)
      obtain ⟨y0, y1, n', _, hlen, hy0, hy1⟩ := trod_struct2 Try.underlying31 h2
      rw [Try.cells31] at hlen
      obtain ⟨_, _, hcell⟩ := World.cells?_some h1
      have hc : w.cell? ((a.add (q / 64 * 64)).add (q % 64)) = cs'[q % 64]? := hcell (q % 64) (by omega)
      rw [hc]
      by_cases h32 : q % 64 < 32
      · obtain ⟨z, hz, hb⟩ := bytes_of hy0 (q % 64) h32
        simp only [List.drop_zero] at hz
        rw [show Try.prog.cellsOf 29 = 32 from Try.cells29, List.getElem?_take_of_lt h32] at hz
        exact ⟨z, hz, hb⟩
      · obtain ⟨z, hz, hb⟩ := bytes_of hy1 (q % 64 - 32) (by omega)
        rw [show Try.prog.cellsOf 29 = 32 from Try.cells29, List.getElem?_take_of_lt (by omega), List.getElem?_drop] at hz
        rw [show 32 + (q % 64 - 32) = q % 64 by omega] at hz
        exact ⟨z, hz, hb⟩
    obtain ⟨S, hS⟩ := Deep.choose_lt key
    have haddr : 0 < len → a = ⟨a.block, a.off, none⟩ ∧ a.block < w.heap.size := by
      intro h0
      have := (hS 0 (by omega)).1
      have h' : w.cell? a = some (.int .u8 (S 0)) := by simpa [Addr.add] using this
      have hs := World.cell?_spot h'
      refine ⟨?_, World.block_lt_of_cell? _ _ h'⟩
      obtain ⟨b, o, sp⟩ := a
      simp only at hs
      subst hs
      rfl
    refine ⟨by omega, a.block, a.off, S, ⟨fun h0 => by rw [← (haddr h0).1], fun h0 => (haddr h0).2, fun q hq => ?_, fun q hq => (hS q hq).2.1, fun q hq => (hS q hq).2.2⟩⟩
    have h1 := (hS q hq).1
    rw [(haddr (by omega)).1] at h1
    have e : ∀ (b o j : Nat), (⟨b, o, none⟩ : Addr).add j = ⟨b, o + j, none⟩ := fun b o j => by unfold Addr.add; split <;> simp_all
    rw [e, e] at h1
    rw [← h1]
    congr 2
    omega

end Go.Proofs.Qxb6614869a
