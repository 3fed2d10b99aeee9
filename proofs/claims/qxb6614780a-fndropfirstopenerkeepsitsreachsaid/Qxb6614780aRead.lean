/-
  The walks that only read what came in ([][]int), and zzMark.
-/
import Derived.Test.Qxb6614780aOpen
namespace Go.Proofs.Qxb6614780a
open Go.RowKit

/-- What came in: a slice of slices of ints, its rows told by functions of the index. -/
structure Rows2 (w : World) (ao : Option Addr) (B b off len : Nat) (A : Nat → Option Addr) (L C : Nat → Nat) (JB JO : Nat → Nat) (Z : Nat → Nat → Int) : Prop where
  addr : 0 < len → ao = some ⟨b, off, none⟩
  outer : ∀ k, k < len → b < B ∧ w.cell? ⟨b, off + k, none⟩ = some (.slice (A k) (L k) (C k))
  inner : ∀ k, k < len → 0 < L k → A k = some ⟨JB k, JO k, none⟩ ∧ JB k < B ∧ ∀ j, j < L k → w.cell? ⟨JB k, JO k + j, none⟩ = some (.int .i64 (Z k j))
  small : ∀ k, k < len → L k ≤ maxLen

theorem Rows2.below {w w' : World} {ao : Option Addr} {B b off len : Nat} {A : Nat → Option Addr} {L C JB JO : Nat → Nat} {Z : Nat → Nat → Int} (h : Rows2 w ao B b off len A L C JB JO Z) (hb : Below B w w') : Rows2 w' ao B b off len A L C JB JO Z := by
  refine ⟨h.addr, fun k hk => ⟨(h.outer k hk).1, ?_⟩, fun k hk hl => ⟨(h.inner k hk hl).1, (h.inner k hk hl).2.1, fun j hj => ?_⟩, h.small⟩
  · rw [hb.cell (p := ⟨b, off + k, none⟩) (h.outer k hk).1]; exact (h.outer k hk).2
  · rw [hb.cell (p := ⟨JB k, JO k + j, none⟩) (h.inner k hk hl).2.1]; exact (h.inner k hk hl).2.2 j hj

theorem Try.size43 (w : World) : (sizeOf 43).run Try.prog w = .ok 1 w := by kernel_rfl
/-- The address of row k, whatever the slice's own address is written as. -/
theorem index_any {ao : Option Addr} {b off len k : Nat} (hao : ao = some ⟨b, off, none⟩) (hk : k < len) (cap : Nat) (w : World) :
    (Instr.indexAt 41 (.slice ao len cap) (.int .i64 k)).run Try.prog w = .ok (.pointer (some ⟨b, off + k, none⟩)) w := by
  subst hao
  rw [run_indexAt_slice (P := Try.prog) w 41 ⟨b, off, none⟩ len cap .i64 k (by kernel_rfl), if_pos ⟨by omega, by omega⟩]
  have e : Try.prog.elem 41 = 43 := by kernel_rfl
  rw [e, Try.size43]
  simp [Result.andThen, Addr.add]

/-! ### zzLinksWithin -/
def InAll (len n : Nat) (L : Nat → Nat) (Z : Nat → Nat → Int) : Prop := ∀ k, k < len → ∀ j, j < L k → 0 ≤ Z k j ∧ Z k j < n
def InRow (k q n : Nat) (Z : Nat → Nat → Int) : Prop := ∀ j, j < q → 0 ≤ Z k j ∧ Z k j < n
def WithinPost (len n : Nat) (L : Nat → Nat) (Z : Nat → Nat → Int) (w : World) (e : Ending) (w' : World) : Prop := ∃ r : Bool, e = .returned (.bool r) ∧ w' = w ∧ (r = true → InAll len n L Z)

theorem InAll.succ {k n : Nat} {L : Nat → Nat} {Z : Nat → Nat → Int} (h : InAll k n L Z) (h' : InRow k (L k) n Z) : InAll (k + 1) n L Z := by
  intro k' hk' j hj
  by_cases e : k' = k
  · subst e; exact h' j hj
  · exact h k' (by omega) j hj
theorem InRow.succ {k q n : Nat} {Z : Nat → Nat → Int} (h : InRow k q n Z) (h' : 0 ≤ Z k q ∧ Z k q < n) : InRow k (q + 1) n Z := by
  intro j hj
  by_cases e : j = q
  · subst e; exact h'
  · exact h j (by omega)

set_option maxHeartbeats 800000 in
theorem within_any (ao : Option Addr) (B b off len cap n : Nat) (A : Nat → Option Addr) (L C JB JO : Nat → Nat) (Z : Nat → Nat → Int) (w : World) (hr : Rows2 w ao B b off len A L C JB JO Z) (hlen : len ≤ 65536) :
    Calls Try.prog 16 #[.slice ao len cap, .int .i64 n] w (WithinPost len n L Z w) := by
  go_enter Try.func16, Try.ntmps16
  go_wp2
  go_loop [5] (fun i => ∃ k : Nat, k ≤ len ∧ i = .int .i64 k ∧ InAll k n L Z) (fun i => len - (intOf i).toNat)
  case atStart => exact ⟨0, Nat.zero_le _, rfl, fun k' h => absurd h (by omega)⟩
  case round =>
    obtain ⟨k, hk, rfl, hin⟩ := hrel
    by_cases hlt : k < len
    · have hc := (hr.outer k hlt).2
      have hs := hr.small k hlt
      unfold maxLen at hs
      have hix := index_any (hr.addr (by omega)) hlt cap
      go_wp2
      go_loop [6] (fun i => ∃ q : Nat, q ≤ L k ∧ i = .int .i64 q ∧ InRow k q n Z) (fun i => L k - (intOf i).toNat)
      case atStart => exact ⟨0, Nat.zero_le _, rfl, fun k' h => absurd h (by omega)⟩
      case round =>
        obtain ⟨q, hq, rfl, hinr⟩ := hrel
        by_cases hql : q < L k
        · obtain ⟨hA, _, hcell⟩ := hr.inner k hlt (by omega)
          have hcz := hcell q hql
          clear hcell
          by_cases hz : 0 ≤ Z k q
          · have hz' : decide (Z k q < 0) = false := by simp; omega
            by_cases hz2 : Z k q < n
            · go_wp2
              go_round
              case rel => exact ⟨q + 1, by omega, by go_num, hinr.succ ⟨hz, hz2⟩⟩
              case measure => simp [intOf]; omega
            · go_wp2
              go_ret
              exact ⟨false, rfl, rfl, fun h => by cases h⟩
          · have hz' : Z k q < 0 := by omega
            go_wp2
            go_ret
            exact ⟨false, rfl, rfl, fun h => by cases h⟩
        · have : q = L k := by omega
          subst this
          go_wp2
          go_round
          case rel => exact ⟨k + 1, by omega, by go_num, hin.succ hinr⟩
          case measure => simp [intOf]; omega
    · have : k = len := by omega
      subst this
      go_wp2
      go_ret
      exact ⟨true, rfl, rfl, fun _ => hin⟩

end Go.Proofs.Qxb6614780a
