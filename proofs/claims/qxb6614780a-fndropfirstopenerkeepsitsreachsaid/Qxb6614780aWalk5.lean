/-
  FnDropFirstOpenerKeepsItsReach: the walk.
-/
import Derived.Test.Qxb6614780aWalk4
import Derived.Test.Qxb6614780aBytes2
namespace Go.Proofs.Qxb6614780a
open Go.RowKit

set_option maxRecDepth 100000 in
set_option maxHeartbeats 4000000 in
theorem walk5 (nI line line2 : Int) (be be2 : ByteArray) (ao ao2 : Option Addr) (b off len cap b2 off2 len2 cap2 : Nat) (A A2 : Nat → Option Addr) (L C JB JO L2 C2 JB2 JO2 : Nat → Nat) (Z Z2 : Nat → Nat → Int) (w : World) (hbe : be.size ≤ maxLen) (hlen : len ≤ maxLen)
    (hr : Rows2 w ao w.heap.size b off len A L C JB JO Z) (hbe2 : be2.size ≤ maxLen) (hlen2 : len2 ≤ maxLen) (hr2 : Rows2 w ao2 w.heap.size b2 off2 len2 A2 L2 C2 JB2 JO2 Z2) :
    Calls Try.prog 5 #[.int .i64 nI, .int .i64 line, .string be, .slice ao len cap, .int .i64 line2, .string be2, .slice ao2 len2 cap2] w (TruePost w) := by
  have hcall := bytes2_any nI line line2 be be2 ao ao2 w.heap.size b off len cap w.heap.size b2 off2 len2 cap2 A A2 L C JB JO L2 C2 JB2 JO2 Z Z2 w hbe hlen hr hbe2 hlen2 hr2
  have HC : Hid (Calls Try.prog 24 #[.int .i64 nI, .int .i64 line, .string be, .slice ao len cap, .int .i64 line2, .string be2, .slice ao2 len2 cap2] w (BytesPost2 len len2 L L2 w)) := hcall
  clear hcall
  unfold maxLen at hbe hlen hbe2 hlen2
  go_enter Try.func5, Try.ntmps5
  go_wp2_with fail
  refine Calls.mono HC.out ?_
  clear HC
  rintro e w' ⟨r, rfl, rfl, hlow0⟩
  cases r with
  | false => go_wp2; go_ret; exact ⟨rfl, Below.refl _ _⟩
  | true =>
  obtain ⟨hlow, hlow2⟩ : Low len L ∧ Low len2 L2 := hlow0 rfl
  clear hlow0
  by_cases g1 : be.size ≤ 65536
  rotate_left
  · go_wp2; go_ret; exact ⟨rfl, Below.refl _ _⟩
  have d1 : decide ((65536 : Int) < (be.size : Int)) = false := by simp; omega
  by_cases g1' : be2.size ≤ 65536
  rotate_left
  · go_wp2; go_ret; exact ⟨rfl, Below.refl _ _⟩
  have d1' : decide ((65536 : Int) < (be2.size : Int)) = false := by simp; omega
  by_cases g2 : len ≤ 65536
  rotate_left
  · go_wp2; go_ret; exact ⟨rfl, Below.refl _ _⟩
  have d2 : decide ((65536 : Int) < (len : Int)) = false := by simp; omega
  by_cases g2' : len2 ≤ 65536
  rotate_left
  · go_wp2; go_ret; exact ⟨rfl, Below.refl _ _⟩
  have d2' : decide ((65536 : Int) < (len2 : Int)) = false := by simp; omega
  go_wp2
  go_loop [15, 16] (fun t i => ∃ (k : Nat) (z : Int), k ≤ len ∧ i = .int .i64 k ∧ t = .int .i64 z ∧ 0 ≤ z ∧ z ≤ 1048576 ∧ 8 * (sumTo L k : Int) ≤ z) (fun _ i => len - (intOf i).toNat)
  case atStart => exact ⟨0, _, Nat.zero_le _, rfl, rfl, by omega, by omega, by simp [sumTo]; omega⟩
  case round =>
    obtain ⟨k, z, hk, rfl, rfl, z0, z1, hz⟩ := hrel
    by_cases hlt : k < len
    · have hc := (hr.outer k hlt).2
      have hs := hlow.le hlt
      have hix := index_any (hr.addr (by omega)) hlt cap
      by_cases g5 : z + (24 + 8 * L k) ≤ 1048576
      · have hz' : 8 * (sumTo L (k + 1) : Int) ≤ z + (24 + 8 * L k) := by simp only [sumTo]; omega
        go_wp2
        go_round
        case rel => exact ⟨k + 1, _, by omega, by go_num, rfl, by omega, by omega, hz'⟩
        case measure => simp [intOf]; omega
      · go_wp2
        go_ret
        exact ⟨rfl, Below.refl _ _⟩
    · have : k = len := by omega
      subst this
      have hsum : sumTo L k ≤ 200000 := by omega
      clear hlow hz
      go_wp2
      go_loop [15, 17] (fun t i => ∃ (q : Nat) (y : Int), q ≤ len2 ∧ i = .int .i64 q ∧ t = .int .i64 y ∧ 0 ≤ y ∧ y ≤ 1048576 ∧ 8 * (sumTo L2 q : Int) ≤ y) (fun _ i => len2 - (intOf i).toNat)
      case atStart => exact ⟨0, _, Nat.zero_le _, rfl, rfl, by omega, by omega, by simp [sumTo]; omega⟩
      case round =>
        obtain ⟨q, y, hq, rfl, rfl, y0, y1, hy⟩ := hrel
        by_cases hlt2 : q < len2
        · have hc := (hr2.outer q hlt2).2
          have hs := hlow2.le hlt2
          have hix := index_any (hr2.addr (by omega)) hlt2 cap2
          by_cases g5 : y + (24 + 8 * L2 q) ≤ 1048576
          · have hy' : 8 * (sumTo L2 (q + 1) : Int) ≤ y + (24 + 8 * L2 q) := by simp only [sumTo]; omega
            go_wp2
            go_round
            case rel => exact ⟨q + 1, _, by omega, by go_num, rfl, by omega, by omega, hy'⟩
            case measure => simp [intOf]; omega
          · go_wp2
            go_ret
            exact ⟨rfl, Below.refl _ _⟩
        · have : q = len2 := by omega
          subst this
          have hsum2 : sumTo L2 q ≤ 200000 := by omega
          clear hlow2 hy
          by_cases g6 : nI < 0
          · go_wp2
            go_ret
            exact ⟨rfl, Below.refl _ _⟩
          have g6' : decide (nI < 0) = false := by simpa using g6
          by_cases g7 : nI ≤ 65536
          rotate_left
          · go_wp2
            go_ret
            exact ⟨rfl, Below.refl _ _⟩
          obtain ⟨n, rfl⟩ := Int.eq_ofNat_of_zero_le (show 0 ≤ nI by omega)
          have hn : n ≤ 65536 := by omega
          have d3 : decide ((65536 : Int) < (n : Int)) = false := by simp; omega
          clear z0 z1 y0 y1 g6 g7
          go_wp2_with fail
          refine (within_any ao w'.heap.size b off k cap n A L C JB JO Z w' hr g2).mono ?_
          rintro e w1 ⟨r, rfl, rfl, hin0⟩
          cases r with
          | false => go_wp2; go_ret; exact ⟨rfl, Below.refl _ _⟩
          | true =>
          have hin : InAll k n L Z := hin0 rfl
          clear hin0
          go_wp2_with fail
          refine (within_any ao2 w1.heap.size b2 off2 q cap2 n A2 L2 C2 JB2 JO2 Z2 w1 hr2 g2').mono ?_
          rintro e w1 ⟨r, rfl, rfl, hin0⟩
          cases r with
          | false => go_wp2; go_ret; exact ⟨rfl, Below.refl _ _⟩
          | true =>
          have hin2 : InAll q n L2 Z2 := hin0 rfl
          clear hin0
          go_wp2_with fail
          refine (mark_any ao b off k cap n A L C JB JO Z w1 hr g2 hn hin).mono ?_
          rintro e w2 ⟨c, rfl, rfl, hm⟩
          go_wp2_with fail
          have hb1 : Below w1.heap.size w1 (w1.alloc (.cells c 4)) := (Below.refl _ _).alloc (Nat.le_refl _) _
          refine (mark_any ao2 b2 off2 q cap2 n A2 L2 C2 JB2 JO2 Z2 (w1.alloc (.cells c 4)) ((hr2.below hb1).mono hb1.size) g2' hn hin2).mono ?_
          rintro e w2 ⟨c2, rfl, rfl, hm2⟩
          go_wp2_with fail
          refine (newLinking_any n hn _).mono ?_
          rintro e w3 ⟨eb, ub, rfl, hL⟩
          obtain ⟨che, chu, hR⟩ : ∃ che chu, Rdy w1 w3 (((w1.alloc (.cells c 4)).alloc (.cells c2 4)).heap.size + 2) eb ub n che chu initGS [(w1.heap.size, lks L Z k), (w1.heap.size + 1, lks L2 Z2 q)] :=
            ⟨_, _, hL.rdy (hb1.alloc hb1.size _) (by
              intro p hp
              simp only [List.mem_cons, List.not_mem_nil, or_false] at hp
              rcases hp with rfl | rfl
              · exact ⟨c, (Below.heap_alloc _ _ _ (by simp)).trans (heap_alloc_at _ _), hm⟩
              · exact ⟨c2, by have := heap_alloc_at (w1.alloc (.cells c 4)) (.cells c2 4); simpa using this, hm2⟩)⟩
          clear hL hm hm2 hb1
          generalize ((w1.alloc (Obj.cells c 4)).alloc (Obj.cells c2 4)).heap.size + 2 = lb at hR ⊢
          go_wp2_with fail
          refine (newReach_any line be _).mono ?_
          rintro e w5 ⟨rfl, rfl⟩
          go_wp2_with fail
          refine (dropGroups_any ao lb eb ub n chu initGS (.pointer (some ⟨w3.heap.size, 0, none⟩)) (some (line, be)) b off k cap A L C JB JO Z _ ((hR.alloc _).rows hr) g2 hsum hin (hR.alloc _).fin.undone (hR.alloc _).fin.lnk ⟨_, rfl, heap_alloc_at _ _⟩).mono ?_
          rintro e w4 ⟨rfl, ⟨l1, hl1, hg1⟩, hk1⟩
          have hR1 := (hR.alloc _).drop hg1 hk1
          clear hR hg1 hk1
          go_wp2_with fail
          refine (newReach_any line2 be2 _).mono ?_
          rintro e w5 ⟨rfl, rfl⟩
          go_wp2_with fail
          refine (dropGroups_any ao2 lb eb ub n chu (opens (some (line, be)) initGS l1) (.pointer (some ⟨w4.heap.size, 0, none⟩)) (some (line2, be2)) b2 off2 q cap2 A2 L2 C2 JB2 JO2 Z2 _ ((hR1.alloc _).rows hr2) g2' hsum2 hin2 (hR1.alloc _).fin.undone (hR1.alloc _).fin.lnk ⟨_, rfl, heap_alloc_at _ _⟩).mono ?_
          rintro e w6 ⟨rfl, ⟨l2, hl2, hg2⟩, hk2⟩
          have hR2 := (hR1.alloc _).drop hg2 hk2
          have hsh : Hid (∀ i, (opens (some (line2, be2)) (opens (some (line, be)) initGS l1) l2).sh i = ((lks L Z k).contains i || (lks L2 Z2 q).contains i)) := fun i => by
            rw [opens_sh, opens_sh, contains_congr hl1, contains_congr hl2]; simp [initGS]
          have hln : Hid (∀ i, (opens (some (line2, be2)) (opens (some (line, be)) initGS l1) l2).ln i = if (lks L Z k).contains i then line else if (lks L2 Z2 q).contains i then line2 else 0) := fun i => by
            rw [(opens_some _ l2 _ i).1, opens_sh, (opens_some _ l1 _ i).1, contains_congr hl1, contains_congr hl2]; cases (lks L Z k).contains i <;> simp [initGS]
          have hbb : Hid (∀ i, (opens (some (line2, be2)) (opens (some (line, be)) initGS l1) l2).be i = if (lks L Z k).contains i then be else if (lks L2 Z2 q).contains i then be2 else ByteArray.empty) := fun i => by
            rw [(opens_some _ l2 _ i).2, opens_sh, (opens_some _ l1 _ i).2, contains_congr hl1, contains_congr hl2]; cases (lks L Z k).contains i <;> simp [initGS]
          clear hR1 hg2 hk2 hl1 hl2
          generalize opens (some (line2, be2)) (opens (some (line, be)) initGS l1) l2 = S at hR2 hsh hln hbb
          go_wp2
          go_loopw [21] (fun i wr => ∃ j : Nat, j ≤ n ∧ i = .int .i64 j ∧ Rdy w1 wr lb eb ub n che chu S [(w1.heap.size, lks L Z k), (w1.heap.size + 1, lks L2 Z2 q)]) (fun i _ => n - (intOf i).toNat)
          case atStart => exact ⟨0, Nat.zero_le _, rfl, hR2⟩
          case round =>
            clear hR2
            obtain ⟨j, hj, rfl, hR2⟩ := hrel
            by_cases hlt : j < n
            · have i1 : (0 : Int) ≤ (j : Int) := by omega
              have i2 : (j : Int) < (n : Int) := by omega
              have k1 := hR2.fin.lnk.c1
              have k2 := hR2.fin.lnk.c2
              have k3 := hR2.fin.ecell hlt
              have k4 := hR2.fin.mcell (mb := w1.heap.size) (l := lks L Z k) (by simp) hlt
              have k8 := hR2.fin.mcell (mb := w1.heap.size + 1) (l := lks L2 Z2 q) (by simp) hlt
              have k5 := hR2.fin.undone.c1 hlt
              have k6 := hR2.fin.undone.c2 hlt
              have k7 := hR2.fin.undone.c3 hlt
              rw [hsh.out j] at k5
              rw [hln.out j] at k6
              rw [hbb.out j] at k7
              cases hnm : (lks L Z k).contains j <;> cases hnm2 : (lks L2 Z2 q).contains j <;> rw [hnm] at k4 <;> rw [hnm2] at k8 <;> rw [hnm, hnm2] at k5 k6 k7 <;> clear hnm hnm2
              · have k5' : wr.cell? ⟨ub, j * 4 + 1, none⟩ = some (.int .u32 0) := k5
                have k6' : wr.cell? ⟨ub, j * 4 + 2, none⟩ = some (.int .i64 0) := k6
                have k7' : wr.cell? ⟨ub, j * 4 + 2 + 1, none⟩ = some (.string ByteArray.empty) := k7
                clear k5 k6 k7
                go_wp2_with (go_at_call 21; refine (ended_any lb eb j n 0 _ hlt k1 k3).mono ?_; rintro e w' ⟨rfl, rfl⟩)
                go_quiet ((go_at_call 22; exact Calls.quiet_of_same (undone_any lb ub j n 0 _ hlt k2 k5')))
                go_wp2_with (go_at_call 23; refine (opened_any lb ub j n 0 ByteArray.empty _ i2 i1 (by exact k2) (by exact k6') (by exact k7')).mono ?_; rintro e w' ⟨rfl, m, rfl⟩)
                go_roundw
                case rel => exact ⟨j + 1, by omega, by go_num, hR2.drewN _⟩
                case measure => simp [intOf]; omega
              · have k5' : wr.cell? ⟨ub, j * 4 + 1, none⟩ = some (.int .u32 1) := k5
                have k6' : wr.cell? ⟨ub, j * 4 + 2, none⟩ = some (.int .i64 line2) := k6
                have k7' : wr.cell? ⟨ub, j * 4 + 2 + 1, none⟩ = some (.string be2) := k7
                clear k5 k6 k7
                go_wp2_with (go_at_call 21; refine (ended_any lb eb j n 0 _ hlt k1 k3).mono ?_; rintro e w' ⟨rfl, rfl⟩)
                go_quiet ((go_at_call 22; exact Calls.quiet_of_same (undone_any lb ub j n 1 _ hlt k2 k5')))
                go_wp2_with (go_at_call 23; refine (opened_any lb ub j n line2 be2 _ i2 i1 (by exact k2) (by exact k6') (by exact k7')).mono ?_; rintro e w' ⟨rfl, m, rfl⟩)
                go_roundw
                case rel => exact ⟨j + 1, by omega, by go_num, hR2.drewN _⟩
                case measure => simp [intOf]; omega
              · have k5' : wr.cell? ⟨ub, j * 4 + 1, none⟩ = some (.int .u32 1) := k5
                have k6' : wr.cell? ⟨ub, j * 4 + 2, none⟩ = some (.int .i64 line) := k6
                have k7' : wr.cell? ⟨ub, j * 4 + 2 + 1, none⟩ = some (.string be) := k7
                clear k5 k6 k7
                go_wp2_with (go_at_call 21; refine (ended_any lb eb j n 0 _ hlt k1 k3).mono ?_; rintro e w' ⟨rfl, rfl⟩)
                go_quiet ((go_at_call 22; exact Calls.quiet_of_same (undone_any lb ub j n 1 _ hlt k2 k5')))
                go_wp2_with (go_at_call 23; refine (opened_any lb ub j n line be _ i2 i1 (by exact k2) (by exact k6') (by exact k7')).mono ?_; rintro e w' ⟨rfl, m, rfl⟩)
                go_roundw
                case rel => exact ⟨j + 1, by omega, by go_num, hR2.drewN _⟩
                case measure => simp [intOf]; omega
              · have k5' : wr.cell? ⟨ub, j * 4 + 1, none⟩ = some (.int .u32 1) := k5
                have k6' : wr.cell? ⟨ub, j * 4 + 2, none⟩ = some (.int .i64 line) := k6
                have k7' : wr.cell? ⟨ub, j * 4 + 2 + 1, none⟩ = some (.string be) := k7
                clear k5 k6 k7
                go_wp2_with (go_at_call 21; refine (ended_any lb eb j n 0 _ hlt k1 k3).mono ?_; rintro e w' ⟨rfl, rfl⟩)
                go_quiet ((go_at_call 22; exact Calls.quiet_of_same (undone_any lb ub j n 1 _ hlt k2 k5')))
                go_wp2_with (go_at_call 23; refine (opened_any lb ub j n line be _ i2 i1 (by exact k2) (by exact k6') (by exact k7')).mono ?_; rintro e w' ⟨rfl, m, rfl⟩)
                go_roundw
                case rel => exact ⟨j + 1, by omega, by go_num, hR2.drewN _⟩
                case measure => simp [intOf]; omega
            · go_wp2
              go_ret
              exact ⟨rfl, hR2.below⟩

end Go.Proofs.Qxb6614780a
