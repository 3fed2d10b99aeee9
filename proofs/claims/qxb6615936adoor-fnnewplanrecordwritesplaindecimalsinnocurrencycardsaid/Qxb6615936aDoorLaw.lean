/-
  zzBytes, ZZnewPlanRecord and the law's walk.
-/
import Derived.Test.Qxb6615936aDoorRec
namespace Go.Proofs.Qxb6615936aDoor
open Go.RowKit Go.Sort
set_option linter.unusedVariables false
set_option linter.unusedSimpArgs false

def SomeBool (w : World) (e : Ending) (w' : World) : Prop := ∃ r : Bool, e = .returned (.bool r) ∧ w' = w

set_option maxRecDepth 100000 in
theorem record6 (id acc : ByteArray) (am it vs : Int) (len : Nat) (A : Nat → Int) (pb : Nat) (w : World) (h : Calls Tryd.prog 10 #[.pointer (some ⟨pb, 0, none⟩)] w (RecPost id acc am it vs len A w)) :
    Calls Tryd.prog 6 #[.pointer (some ⟨pb, 0, none⟩)] w (RecPost id acc am it vs len A w) := by
  have HC := Lib.hid h
  clear h
  go_enter Tryd.func6, Tryd.ntmps6
  go_wp2_with fail
  refine Calls.mono HC.out ?_
  rintro e w1 ⟨qb, rb, rfl, h1⟩
  have H1 := Lib.hid h1
  clear h1
  go_wp2
  go_ret
  exact ⟨qb, rb, rfl, H1.out⟩

set_option maxHeartbeats 1600000 in
theorem bytes5 (id acc : ByteArray) (am it vs : Int) (ao : Option Addr) (len cap : Nat) (w : World) (h1 : id.size ≤ maxLen) (h2 : acc.size ≤ maxLen) (h3 : len ≤ maxLen) :
    Calls Tryd.prog 5 #[.string id, .string acc, .int .i64 am, .int .i64 it, .int .i64 vs, .slice ao len cap] w (SomeBool w) := by
  unfold maxLen at h1 h2 h3
  by_cases g1 : id.size ≤ 1048576
  rotate_left
  · have e1 : decide ((1048576 : Int) < (id.size : Int)) = true := by simp; omega
    go_enter Tryd.func5, Tryd.ntmps5
    go_wp2
    go_ret
    exact ⟨_, rfl, rfl⟩
  have e1 : decide ((1048576 : Int) < (id.size : Int)) = false := by simp; omega
  by_cases g2 : acc.size ≤ 1048576
  rotate_left
  · have e2 : decide ((1048576 : Int) < (acc.size : Int)) = true := by simp; omega
    go_enter Tryd.func5, Tryd.ntmps5
    go_wp2
    go_ret
    exact ⟨_, rfl, rfl⟩
  have e2 : decide ((1048576 : Int) < (acc.size : Int)) = false := by simp; omega
  by_cases g3 : id.size + acc.size ≤ 1048576
  rotate_left
  · have e3 : decide ((1048576 : Int) < (id.size : Int) + (acc.size : Int)) = true := by simp; omega
    go_enter Tryd.func5, Tryd.ntmps5
    go_wp2
    go_ret
    exact ⟨_, rfl, rfl⟩
  have e3 : decide ((1048576 : Int) < (id.size : Int) + (acc.size : Int)) = false := by simp; omega
  by_cases g4 : len ≤ 1048576
  rotate_left
  · have e4 : decide ((1048576 : Int) < (len : Int)) = true := by simp; omega
    go_enter Tryd.func5, Tryd.ntmps5
    go_wp2
    go_ret
    exact ⟨_, rfl, rfl⟩
  have e4 : decide ((1048576 : Int) < (len : Int)) = false := by simp; omega
  by_cases g5 : id.size + acc.size + len ≤ 1048576
  rotate_left
  · have e5 : decide ((1048576 : Int) < (id.size : Int) + (acc.size : Int) + (len : Int)) = true := by simp; omega
    go_enter Tryd.func5, Tryd.ntmps5
    go_wp2
    go_ret
    exact ⟨_, rfl, rfl⟩
  have e5 : decide ((1048576 : Int) < (id.size : Int) + (acc.size : Int) + (len : Int)) = false := by simp; omega
  go_enter Tryd.func5, Tryd.ntmps5
  go_wp2
  go_ret
  exact ⟨_, rfl, rfl⟩
end Go.Proofs.Qxb6615936aDoor
