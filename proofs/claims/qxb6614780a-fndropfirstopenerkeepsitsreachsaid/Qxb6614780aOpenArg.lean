/-
  From the argument's reading to what the walks ask of it.
-/
import Derived.Test.Qxb6614780aRows
import Derived.Test.Qxb6614780aRead
import Derived.ProofKit
import Derived.OpenShut
import Derived.ShutString
import Derived.ChangeOld
import Derived.Below
import Derived.Deep.Matrix
namespace Go.Proofs.Qxb6614780a
open Go.ChangeShapes Go.WideShapes Go.ChangeAt Go.RowKit

theorem own : ownKnob Try.prog.godebug = none := by kernel_rfl
theorem laidOut : laidOutB Try.prog = true := by kernel_rfl
theorem Try.cells43 : Try.prog.cellsOf 43 = 1 := by kernel_rfl
theorem Try.cells3 : Try.prog.cellsOf 3 = 1 := by kernel_rfl

theorem add_none (b o j : Nat) : (⟨b, o, none⟩ : Addr).add j = ⟨b, o + j, none⟩ := by
  unfold Addr.add; split <;> simp_all
theorem addr_of {w : World} {a : Addr} {v : Value} (h : w.cell? (a.add 0) = some v) : a = ⟨a.block, a.off, none⟩ ∧ a.block < w.heap.size := by
  have h' : w.cell? a = some v := by simpa [Addr.add] using h
  have hs := World.cell?_spot h'
  obtain ⟨b, o, sp⟩ := a
  simp only at hs
  subst hs
  exact ⟨rfl, World.block_lt_of_cell? _ _ h'⟩

theorem rows_of {H : Type} {enc : TypeId × Value → H} {w : World} {ao : Option Addr} {len cap fuel : Nat} {x : DataW H × List MemPlace}
    (h : DataW.trod enc Try.prog w 0 (fun _ => true) true fuel 41 (Value.slice ao len cap).cells.toList = some x) :
    len ≤ maxLen ∧ ∃ (b off : Nat) (A : Nat → Option Addr) (L C JB JO : Nat → Nat) (Z : Nat → Nat → Int), Rows2 w ao w.heap.size b off len A L C JB JO Z := by
  rcases Deep.open_int_rows Try.underlying41 Try.underlying43 Try.underlying3 Try.cells43 Try.cells3 h with ⟨hcs, _⟩ | ⟨a, l, c, A, L, C, Z, hcs, _, hl, hm, _, hrow⟩
  · simp [Value.cells] at hcs
    obtain ⟨rfl, rfl, rfl⟩ := hcs
    exact ⟨Nat.zero_le _, 0, 0, fun _ => none, fun _ => 0, fun _ => 0, fun _ => 0, fun _ => 0, fun _ _ => 0, ⟨fun h => by omega, fun k hk => by omega, fun k hk => by omega, fun k hk => by omega⟩⟩
  · simp [Value.cells] at hcs
    obtain ⟨rfl, rfl, rfl⟩ := hcs
    refine ⟨by omega, a.block, a.off, A, L, C, fun k => ((A k).getD ⟨0, 0, none⟩).block, fun k => ((A k).getD ⟨0, 0, none⟩).off, fun k j => (Z k).getD j 0, ⟨fun h => ?_, fun k hk => ?_, fun k hk h0 => ?_, fun k hk => ?_⟩⟩
    · have := (addr_of (hrow 0 (by omega)).1).1
      rw [← this]
    · obtain ⟨e1, e2⟩ := addr_of (hrow 0 (by omega)).1
      refine ⟨e2, ?_⟩
      have := (hrow k (by omega)).1
      rw [e1, add_none] at this
      exact this
    · obtain ⟨_, h1, _, _, _, hn, hs⟩ := hrow k (by omega)
      cases hA : A k with
      | none => have := hn hA; omega
      | some a' =>
        obtain ⟨_, hc⟩ := hs a' hA
        obtain ⟨e1, e2⟩ := addr_of (hc 0 (by omega))
        refine ⟨by simp only [Option.getD_some]; rw [← e1], by simpa using e2, fun j hj => ?_⟩
        have := hc j (by omega)
        rw [e1, add_none] at this
        exact this
    · have := (hrow k (by omega)).2
      omega

end Go.Proofs.Qxb6614780a
