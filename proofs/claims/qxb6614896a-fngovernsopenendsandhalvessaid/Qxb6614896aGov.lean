/-
  'dating.governs' and 'ZZgoverns' compute 'gov'; the zzBytes answer some bool and keep the world.
-/
import Derived.Test.Qxb6614896aRows
import Derived.WalkKit
import Derived.ProofKit
import Derived.OpenShut
import Derived.ShutString
namespace Go.Proofs.Qxb6614896a
open Go.ChangeShapes Go.WideShapes Go.ChangeAt Go.RowKit
set_option linter.unusedVariables false
set_option linter.unusedSimpArgs false

/-- What 'governs' answers. -/
def gov (f l y : Int) : Bool := (f == 0 || decide (f ≤ y)) && (l == 0 || decide (y ≤ l))

/-- The answer's own shape, shut. -/
def GovPost (w : World) (b : Bool) (e : Ending) (w' : World) : Prop := e = .returned (.bool b) ∧ Grown w w'

set_option maxRecDepth 100000 in
set_option maxHeartbeats 1600000 in
theorem gov8 (s : ByteArray) (f l y : Int) (w : World) :
    Calls Try.prog 8 #[.agg #[.string s, .int .i64 f, .int .i64 l], .int .i64 y] w (GovPost w (gov f l y)) := by
  have key : ∀ b : Bool, b = gov f l y → ∀ w', Grown w w' → GovPost w (gov f l y) (.returned (.bool b)) w' := fun b hb w' hg => ⟨by rw [hb], hg⟩
  by_cases h1 : f = 0 <;> by_cases h2 : f ≤ y <;> by_cases h3 : l = 0 <;> by_cases h4 : y ≤ l <;> first | (exfalso; omega) | skip
  all_goals
    have E : gov f l y = ((f == 0 || decide (f ≤ y)) && (l == 0 || decide (y ≤ l))) := rfl
    have G0 : (f == 0) = decide (f = 0) := rfl
    have G1 : (l == 0) = decide (l = 0) := rfl
    rw [G0, G1] at E
    clear G0 G1
    first | rw [decide_eq_true h1] at E | rw [decide_eq_false h1] at E
    first | rw [decide_eq_true h2] at E | rw [decide_eq_false h2] at E
    first | rw [decide_eq_true h3] at E | rw [decide_eq_false h3] at E
    first | rw [decide_eq_true h4] at E | rw [decide_eq_false h4] at E
    have N1 : (f = 0 ∧ (f == 0) = true) ∨ (f ≠ 0 ∧ (f == 0) = false) := by
      by_cases h : f = 0
      · exact .inl ⟨h, by simp [h]⟩
      · exact .inr ⟨h, by simp [h]⟩
    have N2 : (l = 0 ∧ (l == 0) = true) ∨ (l ≠ 0 ∧ (l == 0) = false) := by
      by_cases h : l = 0
      · exact .inl ⟨h, by simp [h]⟩
      · exact .inr ⟨h, by simp [h]⟩
    obtain ⟨n1, n2⟩ | ⟨n1, n2⟩ := N1 <;> first | exact absurd n1 h1 | exact absurd h1 n1 | skip
    all_goals (obtain ⟨n3, n4⟩ | ⟨n3, n4⟩ := N2 <;> first | exact absurd n3 h3 | exact absurd h3 n3 | skip)
    all_goals
      (have E2 : ∃ t : Bool, t = ((_ || _) && (_ || _)) ∧ Hid (gov f l y = t) := ⟨_, rfl, E⟩
       clear E
       obtain ⟨t, ht, E⟩ := E2
       simp only [Bool.true_or, Bool.or_true, Bool.true_and, Bool.and_true, Bool.and_self, Bool.or_self, Bool.or_false, Bool.false_or, Bool.and_false, Bool.false_and] at ht
       subst ht
       clear h1 h3
       generalize gov f l y = G at E key ⊢
       go_enter Try.func8, Try.ntmps8
       go_wp2
       go_ret
       exact key _ E.out.symm _ (by repeat (first | exact Grown.refl _ | apply Grown.drew | apply Grown.alloc)))

set_option maxRecDepth 100000 in
set_option maxHeartbeats 1600000 in
theorem gov6 (s : ByteArray) (f l y : Int) (w : World) :
    Calls Try.prog 6 #[.string s, .int .i64 f, .int .i64 l, .int .i64 y] w (GovPost w (gov f l y)) := by
  have HC : Hid (∀ w, Calls Try.prog 8 #[.agg #[.string s, .int .i64 f, .int .i64 l], .int .i64 y] w (GovPost w (gov f l y))) := gov8 s f l y
  go_enter Try.func6, Try.ntmps6
  go_wp2_with fail
  refine Calls.mono (HC.out _) ?_
  rintro e w' ⟨rfl, hg⟩
  go_wp2
  go_ret
  exact ⟨rfl, hg⟩

def SomeBool (w : World) (e : Ending) (w' : World) : Prop := ∃ r : Bool, e = .returned (.bool r) ∧ w' = w

set_option maxHeartbeats 800000 in
theorem bytes5 (s : ByteArray) (f l y : Int) (w : World) (hlen : s.size ≤ maxLen) :
    Calls Try.prog 5 #[.string s, .int .i64 f, .int .i64 l, .int .i64 y] w (SomeBool w) := by
  unfold maxLen at hlen
  by_cases g1 : s.size ≤ 1048576
  · have e1 : decide ((1048576 : Int) < (s.size : Int)) = false := by simp; omega
    go_enter Try.func5, Try.ntmps5
    go_wp2
    go_ret
    exact ⟨_, rfl, rfl⟩
  · have e1 : decide ((1048576 : Int) < (s.size : Int)) = true := by simp; omega
    go_enter Try.func5, Try.ntmps5
    go_wp2
    go_ret
    exact ⟨_, rfl, rfl⟩

set_option maxHeartbeats 800000 in
theorem bytes7 (s : ByteArray) (f l y z t : Int) (w : World) (hlen : s.size ≤ maxLen) :
    Calls Try.prog 7 #[.string s, .int .i64 f, .int .i64 l, .int .i64 y, .int .i64 z, .int .i64 t] w (SomeBool w) := by
  unfold maxLen at hlen
  by_cases g1 : s.size ≤ 1048576
  · have e1 : decide ((1048576 : Int) < (s.size : Int)) = false := by simp; omega
    go_enter Try.func7, Try.ntmps7
    go_wp2
    go_ret
    exact ⟨_, rfl, rfl⟩
  · have e1 : decide ((1048576 : Int) < (s.size : Int)) = true := by simp; omega
    go_enter Try.func7, Try.ntmps7
    go_wp2
    go_ret
    exact ⟨_, rfl, rfl⟩
end Go.Proofs.Qxb6614896a
