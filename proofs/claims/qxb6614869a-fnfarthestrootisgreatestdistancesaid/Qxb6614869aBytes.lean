/-
  zzBytes_..: they read, and answer some bool.
-/
import Derived.Test.Qxb6614869aHeapWalk
namespace Go.Proofs.Qxb6614869a
open Go.RowKit

def SomeBool (w : World) (e : Ending) (w' : World) : Prop := ∃ r : Bool, e = .returned (.bool r) ∧ w' = w

set_option maxHeartbeats 800000 in
theorem bytes5_any (ao : Option Addr) (len cap : Nat) (i j : Int) (w : World) (hlen : len ≤ maxLen) :
    Calls Try.prog 5 #[.slice ao len cap, .int .i64 i, .int .i64 j] w (SomeBool w) := by
  unfold maxLen at hlen
  by_cases g1 : len ≤ 1048576
  rotate_left
  · go_enter Try.func5, Try.ntmps5
    go_wp2
    go_ret
    exact ⟨_, rfl, rfl⟩
  have e1 : decide ((1048576 : Int) < (len : Int)) = false := by simp; omega
  go_enter Try.func5, Try.ntmps5
  go_wp2
  go_loop [7, 8] (fun t i => ∃ (k : Nat) (z : Int), k ≤ len ∧ i = .int .i64 k ∧ t = .int .i64 z ∧ 0 ≤ z ∧ z ≤ 1048576) (fun _ i => len - (intOf i).toNat)
  case atStart => exact ⟨0, _, Nat.zero_le _, rfl, rfl, by omega, by omega⟩
  case round =>
    obtain ⟨k, z, hk, rfl, rfl, z0, z1⟩ := hrel
    by_cases hlt : k < len
    · by_cases g2 : z + 32 ≤ 1048576
      · by_cases g3 : z + 32 + 32 ≤ 1048576
        · go_wp2
          go_round
          case rel => exact ⟨k + 1, _, by omega, by go_num, rfl, by omega, by omega⟩
          case measure => simp [intOf]; omega
        · go_wp2
          go_ret
          exact ⟨_, rfl, rfl⟩
      · go_wp2
        go_ret
        exact ⟨_, rfl, rfl⟩
    · go_wp2
      go_ret
      exact ⟨_, rfl, rfl⟩

set_option maxHeartbeats 800000 in
theorem bytes9_any (ao : Option Addr) (len cap : Nat) (w : World) (hlen : len ≤ maxLen) :
    Calls Try.prog 9 #[.slice ao len cap] w (SomeBool w) := by
  unfold maxLen at hlen
  by_cases g1 : len ≤ 1048576
  rotate_left
  · go_enter Try.func9, Try.ntmps9
    go_wp2
    go_ret
    exact ⟨_, rfl, rfl⟩
  have e1 : decide ((1048576 : Int) < (len : Int)) = false := by simp; omega
  go_enter Try.func9, Try.ntmps9
  go_wp2
  go_loop [3, 4] (fun t i => ∃ (k : Nat) (z : Int), k ≤ len ∧ i = .int .i64 k ∧ t = .int .i64 z ∧ 0 ≤ z ∧ z ≤ 1048576) (fun _ i => len - (intOf i).toNat)
  case atStart => exact ⟨0, _, Nat.zero_le _, rfl, rfl, by omega, by omega⟩
  case round =>
    obtain ⟨k, z, hk, rfl, rfl, z0, z1⟩ := hrel
    by_cases hlt : k < len
    · by_cases g2 : z + 32 ≤ 1048576
      · by_cases g3 : z + 32 + 32 ≤ 1048576
        · go_wp2
          go_round
          case rel => exact ⟨k + 1, _, by omega, by go_num, rfl, by omega, by omega⟩
          case measure => simp [intOf]; omega
        · go_wp2
          go_ret
          exact ⟨_, rfl, rfl⟩
      · go_wp2
        go_ret
        exact ⟨_, rfl, rfl⟩
    · go_wp2
      go_ret
      exact ⟨_, rfl, rfl⟩

end Go.Proofs.Qxb6614869a
