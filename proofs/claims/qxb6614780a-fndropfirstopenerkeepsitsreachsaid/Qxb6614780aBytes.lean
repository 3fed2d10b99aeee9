/-
  zzBytes_..: they read, and answer some bool.
-/
import Derived.Test.Qxb6614780aMark
namespace Go.Proofs.Qxb6614780a
open Go.RowKit

def Low (len : Nat) (L : Nat → Nat) : Prop := ∀ k, k < len → L k ≤ 1048576
def BytesPost (len : Nat) (L : Nat → Nat) (w : World) (e : Ending) (w' : World) : Prop := ∃ r : Bool, e = .returned (.bool r) ∧ w' = w ∧ (r = true → Low len L)
theorem Low.succ {k : Nat} {L : Nat → Nat} (h : Low k L) (h' : L k ≤ 1048576) : Low (k + 1) L := by
  intro k' hk'
  by_cases e : k' = k
  · subst e; exact h'
  · exact h k' (by omega)

set_option maxHeartbeats 800000 in
theorem bytes1_any (n line : Int) (hf : Bool) (be : ByteArray) (ao : Option Addr) (B b off len cap : Nat) (A : Nat → Option Addr) (L C JB JO : Nat → Nat) (Z : Nat → Nat → Int) (w : World) (hbe : be.size ≤ maxLen) (hlen : len ≤ maxLen) (hr : Rows2 w ao B b off len A L C JB JO Z) :
    Calls Try.prog 15 #[.int .i64 n, .bool hf, .int .i64 line, .string be, .slice ao len cap] w (BytesPost len L w) := by
  unfold maxLen at hbe hlen
  by_cases g1 : be.size ≤ 1048576
  rotate_left
  · go_enter Try.func15, Try.ntmps15
    go_wp2
    go_ret
    exact ⟨false, rfl, rfl, fun h => by cases h⟩
  by_cases g2 : len ≤ 1048576
  rotate_left
  · go_enter Try.func15, Try.ntmps15
    go_wp2
    go_ret
    exact ⟨false, rfl, rfl, fun h => by cases h⟩
  by_cases g3 : be.size + len ≤ 1048576
  rotate_left
  · go_enter Try.func15, Try.ntmps15
    go_wp2
    go_ret
    exact ⟨false, rfl, rfl, fun h => by cases h⟩
  go_enter Try.func15, Try.ntmps15
  go_wp2
  go_loop [11, 12] (fun t i => ∃ (k : Nat) (z : Int), k ≤ len ∧ i = .int .i64 k ∧ t = .int .i64 z ∧ 0 ≤ z ∧ z ≤ 1048576 ∧ Low k L) (fun _ i => len - (intOf i).toNat)
  case atStart => exact ⟨0, _, Nat.zero_le _, rfl, rfl, by omega, by omega, fun k hk => by omega⟩
  case round =>
    obtain ⟨k, z, hk, rfl, rfl, z0, z1, hlow⟩ := hrel
    by_cases hlt : k < len
    · have hc := (hr.outer k hlt).2
      have hs := hr.small k hlt
      unfold maxLen at hs
      have hix := index_any (hr.addr (by omega)) hlt cap
      by_cases g4 : L k ≤ 1048576
      · by_cases g5 : z + L k ≤ 1048576
        · go_wp2
          go_round
          case rel => exact ⟨k + 1, _, by omega, by go_num, rfl, by omega, by omega, hlow.succ g4⟩
          case measure => simp [intOf]; omega
        · go_wp2
          go_ret
          exact ⟨false, rfl, rfl, fun h => by cases h⟩
      · go_wp2
        go_ret
        exact ⟨false, rfl, rfl, fun h => by cases h⟩
    · have : k = len := by omega
      subst this
      go_wp2
      go_ret
      exact ⟨_, rfl, rfl, fun _ => hlow⟩

end Go.Proofs.Qxb6614780a
