/-
  The law itself.
-/
import Derived.Test.Qxb6614869aFmtZz
import Derived.Laws.CopyOwn
namespace Go.Proofs.Qxb6614869aFmt
open Go.RowKit Go.Extern.Stop Go.Stop Go.Extern Go.Kit
set_option linter.unusedVariables false
set_option linter.unusedSimpArgs false

set_option maxHeartbeats 1000000 in
set_option maxRecDepth 100000 in
theorem bytes4_ok (p : Option Addr) (n cap : Nat) (a : Int) (w : World) (h : n ≤ 1048576) : Calls Tryf.prog 4 #[.slice p n cap, .int .i64 a] w fun e w' => e = .returned (.bool true) ∧ w' = w := by
  have g : decide ((1048576 : Int) < (n : Int)) = false := decide_eq_false (by omega)
  have hwr := wrap64 (n : Int) (by omega) (by omega)
  go_enter Tryf.func4, Tryf.ntmps4
  go_wp2
  all_goals first | (exfalso; omega) | (go_ret; exact ⟨rfl, rfl⟩)

set_option maxHeartbeats 1000000 in
set_option maxRecDepth 100000 in
theorem bytes4_big (p : Option Addr) (n cap : Nat) (a : Int) (w : World) (h : 1048576 < n) : Calls Tryf.prog 4 #[.slice p n cap, .int .i64 a] w fun e w' => e = .returned (.bool false) ∧ w' = w := by
  have g : decide ((1048576 : Int) < (n : Int)) = true := decide_eq_true (by omega)
  go_enter Tryf.func4, Tryf.ntmps4
  go_wp2
  all_goals first | (exfalso; omega) | (go_ret; exact ⟨rfl, rfl⟩)

/-- the argument's bytes, as the row reads them -/
def Arg (w : World) (p : Option Addr) (n : Nat) (byt : Nat → Int) : Prop :=
  (p = none ∧ n = 0) ∨ ∃ ad, p = some ad ∧ ∀ j, j < n → w.cell? (ad.add j) = some (.int .u8 (byt j)) ∧ 0 ≤ byt j ∧ byt j < 256

def LawPost (w : World) (e : Ending) (w' : World) : Prop := e = .returned (.bool true) ∧ Below w.heap.size w w'

theorem neq22 (w : World) (p : Option Addr) (n cap : Nat) : (binOp .neq 22 (.slice p n cap) (.slice none 0 0)).run Tryf.prog w = .ok (.bool (!p.isNone)) w :=
  run_neq_slice_nil_any w 22 5 p n cap 0 0 Tryf.underlying22

theorem info5 : ∃ i, Tryf.prog.info? 5 = some i ∧ i.size = 1 ∧ i.bytes = 1 ∧ i.zero = some (.int .u8 0) := ⟨_, rfl, by kernel_rfl, by kernel_rfl, by kernel_rfl⟩

set_option maxHeartbeats 1000000 in
set_option maxRecDepth 100000 in
theorem law_big (p : Option Addr) (n cap : Nat) (a : Int) (w : World) (h : 1048576 < n) : Calls Tryf.prog 3 #[.slice p n cap, .int .i64 a] w (LawPost w) := by
  have HC := Lib.hid (bytes4_big p n cap a w h)
  go_enter Tryf.func3, Tryf.ntmps3
  go_wp2_with fail
  refine Calls.mono HC.out ?_
  rintro e w2 ⟨rfl, rfl⟩
  clear HC
  go_wp2
  go_ret
  exact ⟨rfl, Below.refl _ _⟩

set_option maxHeartbeats 1000000 in
set_option maxRecDepth 100000 in
theorem law_out (p : Option Addr) (n cap : Nat) (a : Int) (w : World) (h : n ≤ 1048576) (ha : a < 0 ∨ (n : Int) < a) : Calls Tryf.prog 3 #[.slice p n cap, .int .i64 a] w (LawPost w) := by
  have HC := Lib.hid (bytes4_ok p n cap a w h)
  have g : decide ((1048576 : Int) < (n : Int)) = false := decide_eq_false (by omega)
  by_cases h0 : a < 0
  · have g2 : decide (a < 0) = true := decide_eq_true h0
    go_enter Tryf.func3, Tryf.ntmps3
    go_wp2_with fail
    refine Calls.mono HC.out ?_
    rintro e w2 ⟨rfl, rfl⟩
    clear HC
    go_wp2
    go_ret
    exact ⟨rfl, Below.refl _ _⟩
  · have g2 : decide (a < 0) = false := decide_eq_false h0
    have g3 : decide ((n : Int) < a) = true := decide_eq_true (by omega)
    go_enter Tryf.func3, Tryf.ntmps3
    go_wp2_with fail
    refine Calls.mono HC.out ?_
    rintro e w2 ⟨rfl, rfl⟩
    clear HC
    go_wp2
    go_ret
    exact ⟨rfl, Below.refl _ _⟩

end Go.Proofs.Qxb6614869aFmt
