/-
  zzBytes_FnDropFirstOpenerKeepsItsReach: it reads, and answers some bool.
-/
import Derived.Test.Qxb6614780aBytes
namespace Go.Proofs.Qxb6614780a
open Go.RowKit

def BytesPost2 (len len2 : Nat) (L L2 : Nat → Nat) (w : World) (e : Ending) (w' : World) : Prop := ∃ r : Bool, e = .returned (.bool r) ∧ w' = w ∧ (r = true → Low len L ∧ Low len2 L2)

set_option maxRecDepth 100000 in
set_option maxHeartbeats 1600000 in
theorem bytes2_any (n line line2 : Int) (be be2 : ByteArray) (ao ao2 : Option Addr) (B b off len cap B2 b2 off2 len2 cap2 : Nat) (A A2 : Nat → Option Addr) (L C JB JO L2 C2 JB2 JO2 : Nat → Nat) (Z Z2 : Nat → Nat → Int) (w : World) (hbe : be.size ≤ maxLen) (hlen : len ≤ maxLen) (hr : Rows2 w ao B b off len A L C JB JO Z)
    (hbe2 : be2.size ≤ maxLen) (hlen2 : len2 ≤ maxLen) (hr2 : Rows2 w ao2 B2 b2 off2 len2 A2 L2 C2 JB2 JO2 Z2) :
    Calls Try.prog 24 #[.int .i64 n, .int .i64 line, .string be, .slice ao len cap, .int .i64 line2, .string be2, .slice ao2 len2 cap2] w (BytesPost2 len len2 L L2 w) := by
  unfold maxLen at hbe hlen hbe2 hlen2
  by_cases g1 : be.size ≤ 1048576
  rotate_left
  · go_enter Try.func24, Try.ntmps24
    go_wp2
    go_ret
    exact ⟨false, rfl, rfl, fun h => by cases h⟩
  by_cases g2 : len ≤ 1048576
  rotate_left
  · go_enter Try.func24, Try.ntmps24
    go_wp2
    go_ret
    exact ⟨false, rfl, rfl, fun h => by cases h⟩
  by_cases g3 : be.size + len ≤ 1048576
  rotate_left
  · go_enter Try.func24, Try.ntmps24
    go_wp2
    go_ret
    exact ⟨false, rfl, rfl, fun h => by cases h⟩
  have e1 : decide ((1048576 : Int) < (be.size : Int)) = false := by simp; omega
  have e2 : decide ((1048576 : Int) < (len : Int)) = false := by simp; omega
  have e3 : decide ((1048576 : Int) < (be.size : Int) + (len : Int)) = false := by simp; omega
  go_enter Try.func24, Try.ntmps24
  go_wp2
  go_loop [15, 16] (fun t i => ∃ (k : Nat) (z : Int), k ≤ len ∧ i = .int .i64 k ∧ t = .int .i64 z ∧ 0 ≤ z ∧ z ≤ 1048576 ∧ Low k L) (fun _ i => len - (intOf i).toNat)
  case atStart => exact ⟨0, _, Nat.zero_le _, rfl, rfl, by omega, by omega, fun k hk => by omega⟩
  case round =>
    obtain ⟨k, z, hk, rfl, rfl, z0, z1, hlow⟩ := hrel
    by_cases hlt : k < len
    · have hc := (hr.outer k hlt).2
      have hs := hr.small k hlt
      unfold maxLen at hs
      have hix := index_any (hr.addr (by omega)) hlt cap
      by_cases g4 : L k ≤ 1048576
      · by_cases g5 : z + L k ≤ 1048576
        · go_wp2
          go_round
          case rel => exact ⟨k + 1, _, by omega, by go_num, rfl, by omega, by omega, hlow.succ g4⟩
          case measure => simp [intOf]; omega
        · go_wp2
          go_ret
          exact ⟨false, rfl, rfl, fun h => by cases h⟩
      · go_wp2
        go_ret
        exact ⟨false, rfl, rfl, fun h => by cases h⟩
    · have : k = len := by omega
      subst this
      by_cases g6 : be2.size ≤ 1048576
      rotate_left
      · go_wp2
        go_ret
        exact ⟨false, rfl, rfl, fun h => by cases h⟩
      by_cases g7 : z + be2.size ≤ 1048576
      rotate_left
      · go_wp2
        go_ret
        exact ⟨false, rfl, rfl, fun h => by cases h⟩
      by_cases g8 : len2 ≤ 1048576
      rotate_left
      · go_wp2
        go_ret
        exact ⟨false, rfl, rfl, fun h => by cases h⟩
      by_cases g9 : z + be2.size + len2 ≤ 1048576
      rotate_left
      · go_wp2
        go_ret
        exact ⟨false, rfl, rfl, fun h => by cases h⟩
      have e4 : decide ((1048576 : Int) < (be2.size : Int)) = false := by simp; omega
      have e5 : decide ((1048576 : Int) < z + (be2.size : Int)) = false := by simp; omega
      have e6 : decide ((1048576 : Int) < (len2 : Int)) = false := by simp; omega
      have e7 : decide ((1048576 : Int) < z + (be2.size : Int) + (len2 : Int)) = false := by simp; omega
      go_wp2
      go_loop [15, 17] (fun t i => ∃ (q : Nat) (z : Int), q ≤ len2 ∧ i = .int .i64 q ∧ t = .int .i64 z ∧ 0 ≤ z ∧ z ≤ 1048576 ∧ Low q L2) (fun _ i => len2 - (intOf i).toNat)
      case atStart => exact ⟨0, _, Nat.zero_le _, rfl, rfl, by omega, by omega, fun k hk => by omega⟩
      case round =>
        obtain ⟨q, y, hq, rfl, rfl, y0, y1, hlow2⟩ := hrel
        by_cases hlt2 : q < len2
        · have hc := (hr2.outer q hlt2).2
          have hs := hr2.small q hlt2
          unfold maxLen at hs
          have hix := index_any (hr2.addr (by omega)) hlt2 cap2
          by_cases g4 : L2 q ≤ 1048576
          · by_cases g5 : y + L2 q ≤ 1048576
            · go_wp2
              go_round
              case rel => exact ⟨q + 1, _, by omega, by go_num, rfl, by omega, by omega, hlow2.succ g4⟩
              case measure => simp [intOf]; omega
            · go_wp2
              go_ret
              exact ⟨false, rfl, rfl, fun h => by cases h⟩
          · go_wp2
            go_ret
            exact ⟨false, rfl, rfl, fun h => by cases h⟩
        · have : q = len2 := by omega
          subst this
          go_wp2
          go_ret
          exact ⟨true, rfl, rfl, fun _ => ⟨hlow, hlow2⟩⟩

end Go.Proofs.Qxb6614780a
