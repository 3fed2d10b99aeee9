/-
  The walk of 'FnGovernsOpenEndsAndHalves'.
-/
import Derived.Test.Qxb6614896aGov
import Derived.Deep.DeepCutAuto
namespace Go.Proofs.Qxb6614896a
open Go.ChangeShapes Go.WideShapes Go.ChangeAt Go.RowKit
set_option linter.unusedVariables false
set_option linter.unusedSimpArgs false

theorem gov_and (f l y : Int) : gov f l y = (gov f 0 y && gov 0 l y) := by simp [gov]
theorem gov_open (y : Int) : gov 0 0 y = true := by simp [gov]
theorem gov_first (f : Int) : gov f 0 f = true := by simp [gov]
theorem gov_last (l : Int) : gov 0 l l = true := by simp [gov]
theorem gov_under (f : Int) (h : f ≠ 0) : gov f 0 (f - 1) = false := by simp [gov, h]; omega
theorem gov_over (l : Int) (h : l ≠ 0) : gov 0 l (l + 1) = false := by simp [gov, h]; omega
theorem gov_up (f y : Int) (h : gov f 0 y = true) : gov f 0 (y + 1) = true := by
  simp [gov] at h ⊢; omega
theorem gov_down (l y : Int) (h : gov 0 l y = true) : gov 0 l (y - 1) = true := by
  simp [gov] at h ⊢; omega
theorem wrap_lo : decide (wrap64 (-9223372036854775808 - 1) < -9223372036854775808) = false := by decide +kernel
theorem wrap_hi : decide (9223372036854775807 < wrap64 (9223372036854775807 + 1)) = false := by decide +kernel
theorem grown_trans {a b c : World} (h : Grown a b) (g : Grown b c) : Grown a c :=
  ⟨World.keptBut_trans h.1 g.1, fun x => (g.2.1 x).trans (h.2.1 x), Nat.le_trans h.2.2 g.2.2⟩

set_option maxRecDepth 100000 in
set_option maxHeartbeats 1600000 in
theorem open_walk (s : ByteArray) (f l y : Int) (hs : s.size ≤ maxLen) (hf0 : -9223372036854775808 ≤ f) (hf1 : f ≤ 9223372036854775807) (hl0 : -9223372036854775808 ≤ l) (hl1 : l ≤ 9223372036854775807) (hy0 : -9223372036854775808 ≤ y) (hy1 : y ≤ 9223372036854775807) (w : World) :
    Calls Try.prog 3 #[.string s, .int .i64 f, .int .i64 l, .int .i64 y] w (GovPost w true) := by
  have HB : Hid (Calls Try.prog 5 #[.string s, .int .i64 f, .int .i64 l, .int .i64 y] w (SomeBool w)) := bytes5 s f l y w hs
  have HG : Hid (∀ f l y w, Calls Try.prog 6 #[.string s, .int .i64 f, .int .i64 l, .int .i64 y] w (GovPost w (gov f l y))) := gov6 s
  unfold maxLen at hs
  go_enter Try.func3, Try.ntmps3
  go_wp2_with fail
  refine Calls.mono HB.out ?_
  rintro e wq ⟨r, rfl, hwq⟩
  subst wq
  cases r
  · go_wp2
    go_ret
    exact ⟨rfl, Grown.refl _⟩
  by_cases g1 : s.size ≤ 1048576
  rotate_left
  · have e1 : decide ((1048576 : Int) < (s.size : Int)) = true := by simp; omega
    go_wp2
    go_ret
    exact ⟨rfl, Grown.refl _⟩
  have e1 : decide ((1048576 : Int) < (s.size : Int)) = false := by simp; omega
  go_wp2_with fail
  refine Calls.mono (HG.out _ _ _ _) ?_
  rintro e w1 ⟨rfl, hg1⟩
  rw [gov_open]
  go_wp2_with fail
  refine Calls.mono (HG.out _ _ _ _) ?_
  rintro e w2 ⟨rfl, hg2⟩
  replace hg1 := grown_trans hg1 hg2
  clear hg2
  rw [gov_and]
  go_wp2_with fail
  refine Calls.mono (HG.out _ _ _ _) ?_
  rintro e w3 ⟨rfl, hg2⟩
  replace hg1 := grown_trans hg1 hg2
  clear hg2
  go_wp2_with fail
  refine Calls.mono (HG.out _ _ _ _) ?_
  rintro e w4 ⟨rfl, hg2⟩
  replace hg1 := grown_trans hg1 hg2
  clear hg2
  have hup : Hid (gov f 0 y = true → gov f 0 (y + 1) = true) := gov_up f y
  have hdn : Hid (gov 0 l y = true → gov 0 l (y - 1) = true) := gov_down l y
  generalize gov f 0 y = B at hup ⊢
  generalize gov 0 l y = C at hdn ⊢
  have E2 : Hid ((B && C) = (B && C)) := rfl
  have F : ∀ wx, Grown w wx → GovPost w true (.returned (.bool true)) wx := fun wx h => ⟨rfl, h⟩
  cases B <;> cases C <;> simp only [Bool.true_and, Bool.and_true, Bool.and_self, Bool.and_false, Bool.false_and]
  all_goals
    go_upto_if 45 with fail
    go_cut [9] (fun a wx => Grown w wx)
    case first =>
      by_cases q : f = 0
      · have qb : (f != 0) = false := by simp [q]
        clear q
        go_wp2
        go_meet
        case rel => exact hg1
      · have qb : (f != 0) = true := by simp [q]
        go_wp2_with fail
        refine Calls.mono (HG.out _ _ _ _) ?_
        rintro e w5 ⟨rfl, hg2⟩
        replace hg1 := grown_trans hg1 hg2
        rw [gov_first]
        by_cases q2 : -9223372036854775808 < f
        · go_wp2_with fail
          refine Calls.mono (HG.out _ _ _ _) ?_
          rintro e w6 ⟨rfl, hg3⟩
          replace hg1 := grown_trans hg1 hg3
          rw [gov_under _ q]
          go_wp2_with fail
          go_meet
          case rel => exact hg1
        · have hz : decide (wrap64 (f - 1) < f) = false := by
            rw [show f = -9223372036854775808 by omega]
            exact wrap_lo
          go_wp2_with fail
          go_meet
          case rel => exact hg1
    case rest =>
      have hg1 := hcut
      clear hcut
      go_upto_if 63 with fail
      go_cut [9] (fun a wx => Grown w wx)
      case first =>
        by_cases q : l = 0
        · have qb : (l != 0) = false := by simp [q]
          clear q
          go_wp2
          go_meet
          case rel => exact hg1
        · have qb : (l != 0) = true := by simp [q]
          go_wp2_with fail
          refine Calls.mono (HG.out _ _ _ _) ?_
          rintro e w5 ⟨rfl, hg2⟩
          replace hg1 := grown_trans hg1 hg2
          rw [gov_last]
          by_cases q2 : l < 9223372036854775807
          · go_wp2_with fail
            refine Calls.mono (HG.out _ _ _ _) ?_
            rintro e w6 ⟨rfl, hg3⟩
            replace hg1 := grown_trans hg1 hg3
            rw [gov_over _ q]
            go_wp2_with fail
            go_meet
            case rel => exact hg1
          · have hz : decide (l < wrap64 (l + 1)) = false := by
              rw [show l = 9223372036854775807 by omega]
              exact wrap_hi
            go_wp2_with fail
            go_meet
            case rel => exact hg1
      case rest =>
        have hg1 := hcut
        clear hcut
        by_cases q1 : y = 9223372036854775807
        · have z1 : decide (y < wrap64 (y + 1)) = false := by subst q1; exact wrap_hi
          have q2 : -9223372036854775808 < y := by omega
          clear q1
          first
            | (go_wp2
               go_ret
               exact F _ hg1)
            | (go_wp2_with fail
               refine Calls.mono (HG.out _ _ _ _) ?_
               rintro e w6 ⟨rfl, hg3⟩
               rw [hdn.out (by simp)]
               replace hg1 := grown_trans hg1 hg3
               go_wp2
               go_ret
               exact F _ hg1)
        · have q1 : y < 9223372036854775807 := by omega
          by_cases q2 : y = -9223372036854775808
          · have z1 : decide (wrap64 (y - 1) < y) = false := by subst q2; exact wrap_lo
            clear q2
            first
              | (go_wp2
                 go_ret
                 exact F _ hg1)
              | (go_wp2_with fail
                 refine Calls.mono (HG.out _ _ _ _) ?_
                 rintro e w6 ⟨rfl, hg3⟩
                 rw [hup.out (by simp)]
                 replace hg1 := grown_trans hg1 hg3
                 go_wp2
                 go_ret
                 exact F _ hg1)
          · have q2 : -9223372036854775808 < y := by omega
            first
              | (go_wp2
                 go_ret
                 exact F _ hg1)
              | (go_wp2_with fail
                 refine Calls.mono (HG.out _ _ _ _) ?_
                 rintro e w6 ⟨rfl, hg3⟩
                 first | rw [hup.out (by simp)] | rw [hdn.out (by simp)]
                 replace hg1 := grown_trans hg1 hg3
                 go_wp2
                 go_ret
                 exact F _ hg1)
              | (go_wp2_with fail
                 refine Calls.mono (HG.out _ _ _ _) ?_
                 rintro e w6 ⟨rfl, hg3⟩
                 rw [hup.out (by simp)]
                 replace hg1 := grown_trans hg1 hg3
                 go_wp2_with fail
                 refine Calls.mono (HG.out _ _ _ _) ?_
                 rintro e w7 ⟨rfl, hg4⟩
                 rw [hdn.out (by simp)]
                 replace hg1 := grown_trans hg1 hg4
                 go_wp2
                 go_ret
                 exact F _ hg1)
end Go.Proofs.Qxb6614896a
