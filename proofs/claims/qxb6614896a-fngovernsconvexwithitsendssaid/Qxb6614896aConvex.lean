/-
  The walk of 'FnGovernsConvexWithItsEnds'.
-/
import Derived.Test.Qxb6614896aOpen
namespace Go.Proofs.Qxb6614896a
open Go.ChangeShapes Go.WideShapes Go.ChangeAt Go.RowKit
set_option linter.unusedVariables false
set_option linter.unusedSimpArgs false

theorem gov_mid (f l x y z : Int) (h1 : x ≤ y) (h2 : y ≤ z) (a : gov f l x = true) (b : gov f l z = true) : gov f l y = true := by
  simp [gov] at a b ⊢; omega
theorem gov_empty (f l y : Int) (hf : f ≠ 0) (hl : l ≠ 0) (h : l < f) : gov f l y = false := by
  simp [gov, hf, hl]; omega
theorem gov_at_first (f l : Int) (hf : f ≠ 0) (h : l = 0 ∨ f ≤ l) : gov f l f = true := by
  simp [gov]; omega
theorem gov_at_last (f l : Int) (hl : l ≠ 0) (h : f = 0 ∨ f ≤ l) : gov f l l = true := by
  simp [gov]; omega
theorem gov_below (f l : Int) (h : f ≠ 0) : gov f l (f - 1) = false := by simp [gov, h]; omega
theorem gov_above (f l : Int) (h : l ≠ 0) : gov f l (l + 1) = false := by simp [gov, h]; omega

set_option maxRecDepth 100000 in
set_option maxHeartbeats 3200000 in
theorem convex_walk (s : ByteArray) (f l x y z : Int) (hs : s.size ≤ maxLen) (hf0 : -9223372036854775808 ≤ f) (hf1 : f ≤ 9223372036854775807) (hl0 : -9223372036854775808 ≤ l) (hl1 : l ≤ 9223372036854775807) (w : World) :
    Calls Try.prog 4 #[.string s, .int .i64 f, .int .i64 l, .int .i64 x, .int .i64 y, .int .i64 z] w (GovPost w true) := by
  have HB : Hid (Calls Try.prog 7 #[.string s, .int .i64 f, .int .i64 l, .int .i64 x, .int .i64 y, .int .i64 z] w (SomeBool w)) := bytes7 s f l x y z w hs
  have HG : Hid (∀ f l y w, Calls Try.prog 6 #[.string s, .int .i64 f, .int .i64 l, .int .i64 y] w (GovPost w (gov f l y))) := gov6 s
  have F : ∀ wx, Grown w wx → GovPost w true (.returned (.bool true)) wx := fun wx h => ⟨rfl, h⟩
  unfold maxLen at hs
  go_enter Try.func4, Try.ntmps4
  go_wp2_with fail
  refine Calls.mono HB.out ?_
  rintro e wq ⟨r, rfl, hwq⟩
  subst wq
  cases r
  · go_wp2
    go_ret
    exact ⟨rfl, Grown.refl _⟩
  by_cases g1 : s.size ≤ 1048576
  rotate_left
  · have e1 : decide ((1048576 : Int) < (s.size : Int)) = true := by simp; omega
    go_wp2
    go_ret
    exact ⟨rfl, Grown.refl _⟩
  have e1 : decide ((1048576 : Int) < (s.size : Int)) = false := by simp; omega
  by_cases g2 : y < x
  · have e2 : decide (y < x) = true := decide_eq_true g2
    go_wp2
    go_ret
    exact ⟨rfl, Grown.refl _⟩
  have e2 : decide (y < x) = false := decide_eq_false g2
  by_cases g3 : z < y
  · have e3 : decide (z < y) = true := decide_eq_true g3
    go_wp2
    go_ret
    exact ⟨rfl, Grown.refl _⟩
  have e3 : decide (z < y) = false := decide_eq_false g3
  go_wp2_with fail
  refine Calls.mono (HG.out _ _ _ _) ?_
  rintro e w1 ⟨rfl, hg1⟩
  go_wp2_with fail
  refine Calls.mono (HG.out _ _ _ _) ?_
  rintro e w2 ⟨rfl, hg2⟩
  replace hg1 := grown_trans hg1 hg2
  clear hg2
  go_wp2_with fail
  refine Calls.mono (HG.out _ _ _ _) ?_
  rintro e w3 ⟨rfl, hg2⟩
  replace hg1 := grown_trans hg1 hg2
  clear hg2
  have hmid : Hid (gov f l x = true → gov f l z = true → gov f l y = true) := gov_mid f l x y z (by omega) (by omega)
  have hem : Hid (f ≠ 0 → l ≠ 0 → l < f → gov f l x = false ∧ gov f l y = false ∧ gov f l z = false) := fun a b c => ⟨gov_empty f l x a b c, gov_empty f l y a b c, gov_empty f l z a b c⟩
  have hop : Hid ((f != 0) = false → (l != 0) = false → gov f l x = true ∧ gov f l y = true ∧ gov f l z = true) := fun a b => by
    have a' : f = 0 := by simpa using a
    have b' : l = 0 := by simpa using b
    rw [a', b']
    exact ⟨gov_open _, gov_open _, gov_open _⟩
  generalize gov f l x = A at hmid hem hop ⊢
  generalize gov f l y = B at hmid hem hop ⊢
  generalize gov f l z = C at hmid hem hop ⊢
  -- Behind region 10 the three answers matter only in regions 13 and 14.
  have hbad : Hid ((A && C && !B) = false) := by
    have := hmid.out
    revert this
    cases A <;> cases B <;> cases C <;> simp [Hid]
  go_upto_region 10 with fail
  go_cut [57] (fun c wx => c = .bool false ∧ wx = w3)
  case first =>
    cases A <;> cases B <;> cases C <;> first | (exact absurd hbad.out (by decide)) | skip
    all_goals
      go_wp2
      go_meet
      case rel => exact ⟨rfl, rfl⟩
  case rest =>
  obtain ⟨rfl, rfl⟩ := hcut
  by_cases q : f = 0
  · have qb : (f != 0) = false := by simp [q]
    have qc : (f == 0) = true := by simp [q]
    by_cases p : l = 0
    · have pb : (l != 0) = false := by simp [p]
      have pc : (l == 0) = true := by simp [p]
      obtain ⟨rfl, rfl, rfl⟩ := hop.out qb pb
      clear q p
      go_wp2
      go_ret
      exact F _ hg1
    · have pb : (l != 0) = true := by simp [p]
      have pc : (l == 0) = false := by simp [p]
      have k2 : gov f l l = true := gov_at_last f l p (.inl q)
      clear q
      go_wp2_with fail
      refine Calls.mono (HG.out _ _ _ _) ?_
      rintro e w5 ⟨rfl, hg2⟩
      replace hg1 := grown_trans hg1 hg2
      rw [k2]
      by_cases t2 : l < 9223372036854775807
      · go_wp2_with fail
        refine Calls.mono (HG.out _ _ _ _) ?_
        rintro e w5 ⟨rfl, hg2⟩
        replace hg1 := grown_trans hg1 hg2
        rw [gov_above _ _ p]
        go_wp2
        go_ret
        exact F _ hg1
      · have t3 : decide (l < wrap64 (l + 1)) = false := by
          rw [show l = 9223372036854775807 by omega]
          exact wrap_hi
        go_wp2
        go_ret
        exact F _ hg1
  · have qb : (f != 0) = true := by simp [q]
    have qc : (f == 0) = false := by simp [q]
    by_cases p : l = 0
    · have pb : (l != 0) = false := by simp [p]
      have pc : (l == 0) = true := by simp [p]
      have k1 : gov f l f = true := gov_at_first f l q (.inl p)
      clear p
      go_wp2_with fail
      refine Calls.mono (HG.out _ _ _ _) ?_
      rintro e w5 ⟨rfl, hg2⟩
      replace hg1 := grown_trans hg1 hg2
      rw [k1]
      by_cases t : -9223372036854775808 < f
      · go_wp2_with fail
        refine Calls.mono (HG.out _ _ _ _) ?_
        rintro e w5 ⟨rfl, hg2⟩
        replace hg1 := grown_trans hg1 hg2
        rw [gov_below _ _ q]
        go_wp2
        go_ret
        exact F _ hg1
      · have t1 : decide (wrap64 (f - 1) < f) = false := by
          rw [show f = -9223372036854775808 by omega]
          exact wrap_lo
        go_wp2
        go_ret
        exact F _ hg1
    · have pb : (l != 0) = true := by simp [p]
      have pc : (l == 0) = false := by simp [p]
      by_cases o : l < f
      · have o1 : decide (l < f) = true := decide_eq_true o
        obtain ⟨rfl, rfl, rfl⟩ := hem.out q p o
        go_wp2
        go_ret
        exact F _ hg1
      · have o1 : decide (l < f) = false := decide_eq_false o
        have k1 : gov f l f = true := gov_at_first f l q (.inr (by omega))
        have k2 : gov f l l = true := gov_at_last f l p (.inr (by omega))
        go_wp2_with fail
        refine Calls.mono (HG.out _ _ _ _) ?_
        rintro e w5 ⟨rfl, hg2⟩
        replace hg1 := grown_trans hg1 hg2
        rw [k1]
        by_cases t : -9223372036854775808 < f
        · go_wp2_with fail
          refine Calls.mono (HG.out _ _ _ _) ?_
          rintro e w5 ⟨rfl, hg2⟩
          replace hg1 := grown_trans hg1 hg2
          rw [gov_below _ _ q]
          go_wp2_with fail
          refine Calls.mono (HG.out _ _ _ _) ?_
          rintro e w5 ⟨rfl, hg2⟩
          replace hg1 := grown_trans hg1 hg2
          rw [k2]
          by_cases t2 : l < 9223372036854775807
          · go_wp2_with fail
            refine Calls.mono (HG.out _ _ _ _) ?_
            rintro e w5 ⟨rfl, hg2⟩
            replace hg1 := grown_trans hg1 hg2
            rw [gov_above _ _ p]
            go_wp2
            go_ret
            exact F _ hg1
          · have t3 : decide (l < wrap64 (l + 1)) = false := by
              rw [show l = 9223372036854775807 by omega]
              exact wrap_hi
            go_wp2
            go_ret
            exact F _ hg1
        · have t1 : decide (wrap64 (f - 1) < f) = false := by
            rw [show f = -9223372036854775808 by omega]
            exact wrap_lo
          go_wp2_with fail
          refine Calls.mono (HG.out _ _ _ _) ?_
          rintro e w5 ⟨rfl, hg2⟩
          replace hg1 := grown_trans hg1 hg2
          rw [k2]
          by_cases t2 : l < 9223372036854775807
          · go_wp2_with fail
            refine Calls.mono (HG.out _ _ _ _) ?_
            rintro e w5 ⟨rfl, hg2⟩
            replace hg1 := grown_trans hg1 hg2
            rw [gov_above _ _ p]
            go_wp2
            go_ret
            exact F _ hg1
          · have t3 : decide (l < wrap64 (l + 1)) = false := by
              rw [show l = 9223372036854775807 by omega]
              exact wrap_hi
            go_wp2
            go_ret
            exact F _ hg1
end Go.Proofs.Qxb6614896a
