/-
  '!=' on two arrays of 32 bytes.
-/
import Derived.Test.Qxb6614869aWalk3
namespace Go.Proofs.Qxb6614869a
open Go.RowKit

def sameRow (a b : Nat → Int) : Bool := (List.range' 0 32 1).all fun i => a i == b i
theorem sameRow_iff (a b : Nat → Int) : sameRow a b = true ↔ ∀ i, i < 32 → a i = b i := by
  simp [sameRow, List.mem_range'_1]

theorem Try.size5 (w : World) : (sizeOf 5).run Try.prog w = .ok 1 w := by kernel_rfl

theorem run_equalIn_rows (w : World) (d : Nat) {ca cb : Array Value} {a b : Nat → Int} (ha : Row ca a) (hb : Row cb b) :
    (Op.equalIn (d + 2) 29 (.agg ca) (.agg cb)).run Try.prog w = .ok (sameRow a b) w := by
  unfold sameRow
  rw [Op.equalIn]
  simp only [Sem.run_bind, run_underlying Try.underlying29, Result.andThen_ok, Try.size5, Std.Legacy.Range.forIn_eq_forIn_range', Std.Legacy.Range.size, Nat.sub_zero, Nat.add_sub_cancel, Nat.div_one]
  have hl : ∀ i ∈ List.range' 0 32 1, i < 32 := fun i hi => by simpa using (List.mem_range'_1.1 hi).2
  generalize List.range' 0 32 1 = l at hl ⊢
  induction l with
  | nil => simp
  | cons i l ih =>
    have hi : i < 32 := hl i (by simp)
    have px : (part 5 ca (i * 1)).run Try.prog w = .ok (.int .u8 (a i)) w := by
      simp [part, isAgg, run_underlying Try.underlying5, ha.at' i hi]
    have py : (part 5 cb (i * 1)).run Try.prog w = .ok (.int .u8 (b i)) w := by
      simp [part, isAgg, run_underlying Try.underlying5, hb.at' i hi]
    have pe : (Op.equalIn (d + 1) 5 (.int .u8 (a i)) (.int .u8 (b i))).run Try.prog w = .ok (a i == b i) w := run_equalIn_int w d 5 .u8 .u8 _ _ Try.underlying5
    simp only [List.forIn_cons, Sem.run_bind, px, py, pe, Result.andThen_ok, List.all_cons]
    cases hb' : (a i == b i)
    · simp
    · simp only [Bool.not_true, Bool.false_eq_true, if_false, Sem.run_pure, Result.andThen_ok, Bool.true_and]
      exact ih fun j hj => hl j (by simp [hj])

theorem run_neq_rows (w : World) {ca cb : Array Value} {a b : Nat → Int} (ha : Row ca a) (hb : Row cb b) :
    (binOp .neq 29 (.agg ca) (.agg cb)).run Try.prog w = .ok (.bool (!sameRow a b)) w := by
  simp only [binOp]
  simp only [Op.equal, Op.maxDepth, Sem.run_bind, run_equalIn_rows w 9998 ha hb, Result.andThen_ok, Sem.run_pure]

theorem exec_neq (w : World) {ca cb : Array Value} {a b : Nat → Int} (ha : Row ca a) (hb : Row cb b) {o : Oper} {act : Act} (x y : Operand) (r : TypeId) (ho : o.op = .binOp .neq 29 x y r) (hx : act.eval x = .agg ca) (hy : act.eval y = .agg cb) :
    (execOp act.eval o).run Try.prog w = .ok (.value (.bool (!sameRow a b))) w := by
  unfold execOp
  have hg := run_eqGuard_agg (P := Try.prog) w .neq 29 x y ca cb (by kernel_rfl)
  simp only [ho, hx, hy, Sem.run_bind, hg, Result.andThen_ok, run_neq_rows w ha hb, Sem.run_pure]

end Go.Proofs.Qxb6614869a
