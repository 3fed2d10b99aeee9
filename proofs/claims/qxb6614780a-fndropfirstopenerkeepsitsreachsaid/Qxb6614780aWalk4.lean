/-
  FnDropOpensExactlyTheNamedUndoGates: the walk.
-/
import Derived.Test.Qxb6614780aLaw
namespace Go.Proofs.Qxb6614780a
open Go.RowKit

def TruePost (w : World) (e : Ending) (w' : World) : Prop := e = .returned (.bool true) ∧ Below w.heap.size w w'

theorem Low.le {len : Nat} {L : Nat → Nat} (h : Low len L) {k : Nat} (hk : k < len) : L k ≤ 1048576 := h k hk

set_option maxRecDepth 100000 in
set_option maxHeartbeats 3000000 in
theorem walk4 (nI line : Int) (hf : Bool) (be : ByteArray) (ao : Option Addr) (b off len cap : Nat) (A : Nat → Option Addr) (L C JB JO : Nat → Nat) (Z : Nat → Nat → Int) (w : World) (hbe : be.size ≤ maxLen) (hlen : len ≤ maxLen)
    (hr : Rows2 w ao w.heap.size b off len A L C JB JO Z) :
    Calls Try.prog 4 #[.int .i64 nI, .bool hf, .int .i64 line, .string be, .slice ao len cap] w (TruePost w) := by
  have hbe' := hbe
  have hlen' := hlen
  unfold maxLen at hbe hlen
  go_enter Try.func4, Try.ntmps4
  go_wp2_with fail
  refine (bytes1_any nI line hf be ao w.heap.size b off len cap A L C JB JO Z w hbe' hlen' hr).mono ?_
  rintro e w' ⟨r, rfl, rfl, hlow0⟩
  cases r with
  | false => go_wp2; go_ret; exact ⟨rfl, Below.refl _ _⟩
  | true =>
  have hlow : Low len L := hlow0 rfl
  clear hlow0
  by_cases g1 : be.size ≤ 65536
  rotate_left
  · go_wp2; go_ret; exact ⟨rfl, Below.refl _ _⟩
  have d1 : decide ((65536 : Int) < (be.size : Int)) = false := by simp; omega
  by_cases g2 : len ≤ 65536
  rotate_left
  · go_wp2; go_ret; exact ⟨rfl, Below.refl _ _⟩
  have d2 : decide ((65536 : Int) < (len : Int)) = false := by simp; omega
  go_wp2
  go_loop [11, 12] (fun t i => ∃ (k : Nat) (z : Int), k ≤ len ∧ i = .int .i64 k ∧ t = .int .i64 z ∧ 0 ≤ z ∧ z ≤ 1048576 ∧ 8 * (sumTo L k : Int) ≤ z) (fun _ i => len - (intOf i).toNat)
  case atStart => exact ⟨0, _, Nat.zero_le _, rfl, rfl, by omega, by omega, by simp [sumTo]⟩
  case round =>
    obtain ⟨k, z, hk, rfl, rfl, z0, z1, hz⟩ := hrel
    by_cases hlt : k < len
    · have hc := (hr.outer k hlt).2
      have hs := hlow.le hlt
      have hix := index_any (hr.addr (by omega)) hlt cap
      by_cases g5 : z + (24 + 8 * L k) ≤ 1048576
      · have hz' : 8 * (sumTo L (k + 1) : Int) ≤ z + (24 + 8 * L k) := by simp only [sumTo]; omega
        go_wp2
        go_round
        case rel => exact ⟨k + 1, _, by omega, by go_num, rfl, by omega, by omega, hz'⟩
        case measure => simp [intOf]; omega
      · go_wp2
        go_ret
        exact ⟨rfl, Below.refl _ _⟩
    · have : k = len := by omega
      subst this
      by_cases g6 : nI < 0
      · go_wp2
        go_ret
        exact ⟨rfl, Below.refl _ _⟩
      have g6' : decide (nI < 0) = false := by simpa using g6
      by_cases g7 : nI ≤ 65536
      rotate_left
      · go_wp2
        go_ret
        exact ⟨rfl, Below.refl _ _⟩
      obtain ⟨n, rfl⟩ := Int.eq_ofNat_of_zero_le (show 0 ≤ nI by omega)
      have hn : n ≤ 65536 := by omega
      have d3 : decide ((65536 : Int) < (n : Int)) = false := by simp; omega
      have hsum : sumTo L k ≤ 200000 := by omega
      clear hlow hz z0 z1
      go_wp2_with fail
      refine (within_any ao w'.heap.size b off k cap n A L C JB JO Z w' hr g2).mono ?_
      rintro e w1 ⟨r, rfl, rfl, hin0⟩
      cases r with
      | false => go_wp2; go_ret; exact ⟨rfl, Below.refl _ _⟩
      | true =>
      have hin : InAll k n L Z := hin0 rfl
      clear hin0
      go_wp2_with fail
      refine (mark_any ao b off k cap n A L C JB JO Z w1 hr g2 hn hin).mono ?_
      rintro e w2 ⟨c, rfl, rfl, hm⟩
      go_wp2_with fail
      refine (newLinking_any n hn _).mono ?_
      rintro e w3 ⟨eb, ub, rfl, hL⟩
      obtain ⟨che, chu, hR⟩ : ∃ che chu, Rdy w1 w3 ((w1.alloc (.cells c 4)).heap.size + 2) eb ub n che chu initGS [(w1.heap.size, lks L Z k)] :=
        ⟨_, _, hL.rdy ((Below.refl _ _).alloc (Nat.le_refl _) _) (by intro p hp; simp at hp; subst hp; exact ⟨c, heap_alloc_at _ _, hm⟩)⟩
      clear hL hm
      generalize (w1.alloc (Obj.cells c 4)).heap.size + 2 = lb at hR ⊢
      cases hf
      · go_wp2_with fail
        refine (dropGroups_any ao lb eb ub n chu initGS (.pointer none) none b off k cap A L C JB JO Z _ (hR.rows hr) g2 hsum hin hR.fin.undone hR.fin.lnk rfl).mono ?_
        rintro e w4 ⟨rfl, ⟨l', hl', hg'⟩, hk'⟩
        have hR2 := hR.drop hg' hk'
        have hsh : Hid (∀ i, (opens none initGS l').sh i = (lks L Z k).contains i) := fun i => by rw [opens_sh, contains_congr hl']; simp [initGS]
        have hln : Hid (∀ i, (opens none initGS l').ln i = if (lks L Z k).contains i then 0 else 0) := fun i => by rw [(opens_none l' _).1]; simp [initGS]
        have hbb : Hid (∀ i, (opens none initGS l').be i = if (lks L Z k).contains i then ByteArray.empty else ByteArray.empty) := fun i => by rw [(opens_none l' _).2]; simp [initGS]
        clear hR hg' hk' hl'
        generalize opens none initGS l' = S at hR2 hsh hln hbb
        go_wp2
        go_loopw [15] (fun i wr => ∃ j : Nat, j ≤ n ∧ i = .int .i64 j ∧ Rdy w1 wr lb eb ub n che chu S [(w1.heap.size, lks L Z k)]) (fun i _ => n - (intOf i).toNat)
        case atStart => exact ⟨0, Nat.zero_le _, rfl, hR2⟩
        case round =>
          clear hR2
          obtain ⟨j, hj, rfl, hR2⟩ := hrel
          by_cases hlt : j < n
          · have i1 : (0 : Int) ≤ (j : Int) := by omega
            have i2 : (j : Int) < (n : Int) := by omega
            have k1 := hR2.fin.lnk.c1
            have k2 := hR2.fin.lnk.c2
            have k3 := hR2.fin.ecell hlt
            have k4 := hR2.fin.mcell (mb := w1.heap.size) (l := lks L Z k) (by simp) hlt
            have k5 := hR2.fin.undone.c1 hlt
            have k6 := hR2.fin.undone.c2 hlt
            have k7 := hR2.fin.undone.c3 hlt
            rw [hsh.out j] at k5
            rw [hln.out j] at k6
            rw [hbb.out j] at k7
            cases hnm : (lks L Z k).contains j <;> rw [hnm] at k4 k5 k6 k7 <;> clear hnm
            · have k5' : wr.cell? ⟨ub, j * 4 + 1, none⟩ = some (.int .u32 0) := k5
              have k6' : wr.cell? ⟨ub, j * 4 + 2, none⟩ = some (.int .i64 0) := k6
              have k7' : wr.cell? ⟨ub, j * 4 + 2 + 1, none⟩ = some (.string ByteArray.empty) := k7
              clear k5 k6 k7
              go_wp2_with (go_at_call 21; refine (ended_any lb eb j n 0 _ hlt k1 k3).mono ?_; rintro e w' ⟨rfl, rfl⟩)
              go_quiet ((go_at_call 22; exact Calls.quiet_of_same (undone_any lb ub j n 0 _ hlt k2 k5')))
              go_wp2_with (go_at_call 23; refine (opened_any lb ub j n 0 ByteArray.empty _ i2 i1 (by exact k2) (by exact k6') (by exact k7')).mono ?_; rintro e w' ⟨rfl, m, rfl⟩)
              go_roundw
              case rel => exact ⟨j + 1, by omega, by go_num, hR2.drewN _⟩
              case measure => simp [intOf]; omega
            · have k5' : wr.cell? ⟨ub, j * 4 + 1, none⟩ = some (.int .u32 1) := k5
              have k6' : wr.cell? ⟨ub, j * 4 + 2, none⟩ = some (.int .i64 0) := k6
              have k7' : wr.cell? ⟨ub, j * 4 + 2 + 1, none⟩ = some (.string ByteArray.empty) := k7
              clear k5 k6 k7
              go_wp2_with (go_at_call 21; refine (ended_any lb eb j n 0 _ hlt k1 k3).mono ?_; rintro e w' ⟨rfl, rfl⟩)
              go_quiet ((go_at_call 22; exact Calls.quiet_of_same (undone_any lb ub j n 1 _ hlt k2 k5')))
              go_wp2_with (go_at_call 23; refine (opened_any lb ub j n 0 ByteArray.empty _ i2 i1 (by exact k2) (by exact k6') (by exact k7')).mono ?_; rintro e w' ⟨rfl, m, rfl⟩)
              go_roundw
              case rel => exact ⟨j + 1, by omega, by go_num, hR2.drewN _⟩
              case measure => simp [intOf]; omega
          · go_wp2
            go_ret
            exact ⟨rfl, hR2.below⟩
      · go_wp2_with fail
        refine (newReach_any line be _).mono ?_
        rintro e w5 ⟨rfl, rfl⟩
        go_wp2_with fail
        refine (dropGroups_any ao lb eb ub n chu initGS (.pointer (some ⟨w3.heap.size, 0, none⟩)) (some (line, be)) b off k cap A L C JB JO Z _ ((hR.alloc _).rows hr) g2 hsum hin (hR.alloc _).fin.undone (hR.alloc _).fin.lnk ⟨_, rfl, heap_alloc_at _ _⟩).mono ?_
        rintro e w4 ⟨rfl, ⟨l', hl', hg'⟩, hk'⟩
        have hR2 := (hR.alloc _).drop hg' hk'
        have hsh : Hid (∀ i, (opens (some (line, be)) initGS l').sh i = (lks L Z k).contains i) := fun i => by rw [opens_sh, contains_congr hl']; simp [initGS]
        have hln : Hid (∀ i, (opens (some (line, be)) initGS l').ln i = if (lks L Z k).contains i then line else 0) := fun i => by rw [(opens_some _ l' _ i).1, contains_congr hl']; simp [initGS]
        have hbb : Hid (∀ i, (opens (some (line, be)) initGS l').be i = if (lks L Z k).contains i then be else ByteArray.empty) := fun i => by rw [(opens_some _ l' _ i).2, contains_congr hl']; simp [initGS]
        clear hR hg' hk' hl'
        generalize opens (some (line, be)) initGS l' = S at hR2 hsh hln hbb
        go_wp2
        go_loopw [15] (fun i wr => ∃ j : Nat, j ≤ n ∧ i = .int .i64 j ∧ Rdy w1 wr lb eb ub n che chu S [(w1.heap.size, lks L Z k)]) (fun i _ => n - (intOf i).toNat)
        case atStart => exact ⟨0, Nat.zero_le _, rfl, hR2⟩
        case round =>
          clear hR2
          obtain ⟨j, hj, rfl, hR2⟩ := hrel
          by_cases hlt : j < n
          · have i1 : (0 : Int) ≤ (j : Int) := by omega
            have i2 : (j : Int) < (n : Int) := by omega
            have k1 := hR2.fin.lnk.c1
            have k2 := hR2.fin.lnk.c2
            have k3 := hR2.fin.ecell hlt
            have k4 := hR2.fin.mcell (mb := w1.heap.size) (l := lks L Z k) (by simp) hlt
            have k5 := hR2.fin.undone.c1 hlt
            have k6 := hR2.fin.undone.c2 hlt
            have k7 := hR2.fin.undone.c3 hlt
            rw [hsh.out j] at k5
            rw [hln.out j] at k6
            rw [hbb.out j] at k7
            cases hnm : (lks L Z k).contains j <;> rw [hnm] at k4 k5 k6 k7 <;> clear hnm
            · have k5' : wr.cell? ⟨ub, j * 4 + 1, none⟩ = some (.int .u32 0) := k5
              have k6' : wr.cell? ⟨ub, j * 4 + 2, none⟩ = some (.int .i64 0) := k6
              have k7' : wr.cell? ⟨ub, j * 4 + 2 + 1, none⟩ = some (.string ByteArray.empty) := k7
              clear k5 k6 k7
              go_wp2_with (go_at_call 21; refine (ended_any lb eb j n 0 _ hlt k1 k3).mono ?_; rintro e w' ⟨rfl, rfl⟩)
              go_quiet ((go_at_call 22; exact Calls.quiet_of_same (undone_any lb ub j n 0 _ hlt k2 k5')))
              go_wp2_with (go_at_call 23; refine (opened_any lb ub j n 0 ByteArray.empty _ i2 i1 (by exact k2) (by exact k6') (by exact k7')).mono ?_; rintro e w' ⟨rfl, m, rfl⟩)
              go_roundw
              case rel => exact ⟨j + 1, by omega, by go_num, hR2.drewN _⟩
              case measure => simp [intOf]; omega
            · have k5' : wr.cell? ⟨ub, j * 4 + 1, none⟩ = some (.int .u32 1) := k5
              have k6' : wr.cell? ⟨ub, j * 4 + 2, none⟩ = some (.int .i64 line) := k6
              have k7' : wr.cell? ⟨ub, j * 4 + 2 + 1, none⟩ = some (.string be) := k7
              clear k5 k6 k7
              go_wp2_with (go_at_call 21; refine (ended_any lb eb j n 0 _ hlt k1 k3).mono ?_; rintro e w' ⟨rfl, rfl⟩)
              go_quiet ((go_at_call 22; exact Calls.quiet_of_same (undone_any lb ub j n 1 _ hlt k2 k5')))
              go_wp2_with (go_at_call 23; refine (opened_any lb ub j n line be _ i2 i1 (by exact k2) (by exact k6') (by exact k7')).mono ?_; rintro e w' ⟨rfl, m, rfl⟩)
              go_roundw
              case rel => exact ⟨j + 1, by omega, by go_num, hR2.drewN _⟩
              case measure => simp [intOf]; omega
          · go_wp2
            go_ret
            exact ⟨rfl, hR2.below⟩
end Go.Proofs.Qxb6614780a
