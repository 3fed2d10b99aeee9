/-
  FnFarthestRootIsGreatestDistance: the walk.
-/
import Derived.Test.Qxb6614869aNeq
namespace Go.Proofs.Qxb6614869a
open Go.RowKit
set_option linter.unusedSimpArgs false

/-- m is not less than any of the first k, by distance. -/
def Top (S : Nat → Int) (m k : Nat) : Prop := ∀ q, q < k → gt (dist S q) (dist S m) 32 = false

theorem Top.start (S : Nat → Int) : Top S 0 1 := fun q hq => by
  have : q = 0 := by omega
  subst this
  exact gt_irrefl _ _ _ fun _ _ => rfl
theorem Top.stay {S : Nat → Int} {m k : Nat} (h : Top S m k) (hx : gt (dist S k) (dist S m) 32 = false) : Top S m (k + 1) := fun q hq => by
  by_cases e : q = k
  · subst e; exact hx
  · exact h q (by omega)
theorem Top.move {S : Nat → Int} {m k : Nat} (h : Top S m k) (hx : gt (dist S k) (dist S m) 32 = true) : Top S k (k + 1) := fun q hq => by
  by_cases e : q = k
  · subst e; exact gt_irrefl _ _ _ fun _ _ => rfl
  · exact gt_trans_not _ _ _ _ hx (h q (by omega))

def LoopOne (S : Nat → Int) (len : Nat) (w : World) (v4 v5 : Value) (wr : World) : Prop :=
  ∃ m k : Nat, m < k ∧ k ≤ len ∧ v4 = .int .i64 m ∧ v5 = .int .i64 k ∧ HeapTo S len w wr len ∧ Top S m k

set_option maxRecDepth 100000 in
set_option maxHeartbeats 3000000 in
theorem walk4 (ao : Option Addr) (hb off len cap : Nat) (S : Nat → Int) (w : World) (hsrc : Src w ao hb off len S) (hlen : len ≤ maxLen) :
    Calls Try.prog 4 #[.slice ao len cap] w (TruePost w) := by
  have hlen' := hlen
  unfold maxLen at hlen
  go_enter Try.func4, Try.ntmps4
  go_wp2_with fail
  refine (bytes9_any ao len cap w hlen').mono ?_
  rintro e w' ⟨r, rfl, rfl⟩
  cases r with
  | false => go_wp2; go_ret; exact ⟨rfl, Below.refl _ _⟩
  | true =>
  by_cases g1 : len ≤ 16384
  rotate_left
  · go_wp2; go_ret; exact ⟨rfl, Below.refl _ _⟩
  have d1 : decide ((16384 : Int) < (len : Int)) = false := by simp; omega
  by_cases g2 : len = 0
  · have d2 : ((len : Int) == 0) = true := by simp; omega
    clear g2
    go_wp2; go_ret; exact ⟨rfl, Below.refl _ _⟩
  have d2 : ((len : Int) == 0) = false := by simp; omega
  have g3 : 0 < len := by omega
  clear g2
  go_wp2_with fail
  refine (heap_any ao hb off len cap S w' hsrc (by omega)).mono ?_
  rintro e w1 ⟨rfl, hH⟩
  go_wp2
  go_loopw [4, 5] (fun v4 v5 wr => LoopOne S len w' v4 v5 wr) (fun _ i _ => len - (intOf i).toNat)
  case atStart => exact ⟨0, 1, by omega, by omega, rfl, rfl, hH, Top.start S⟩
  case round =>
    clear hH
    obtain ⟨m, k, hmk, hk, rfl, rfl, hH, htop⟩ := hrel
    have hixm := index22 (hsrc.addr (by omega)) (show m < len by omega) cap
    have Rm : Hid (∀ w1, HeapTo S len w' w1 len → w1.rangeAt hb (off + m * 64 + 32) (rowAt S (m * 64 + 32)).toList) := fun w1 h => by rw [Nat.add_assoc]; exact hsrc.range (by omega) h.below
    by_cases hlt : k < len
    · have hixk := index22 (hsrc.addr (by omega)) hlt cap
      have Rk : Hid (∀ w1, HeapTo S len w' w1 len → w1.rangeAt hb (off + k * 64 + 32) (rowAt S (k * 64 + 32)).toList) := fun w1 h => by rw [Nat.add_assoc]; exact hsrc.range (by omega) h.below
      cases hx : gt (dist S k) (dist S m) 32
      · have HC : Hid (∀ w1, HeapTo S len w' w1 len → Calls Try.prog 8 #[.agg (rowAt S (k * 64 + 32)), .agg (rowAt S (m * 64 + 32))] w1 fun e w2 => e = .returned (.bool false) ∧ HeapTo S len w' w2 len) :=
          fun w1 h1 => (greater_at hsrc hlt (show m < len by omega) w1).mono fun e w2 h2 => ⟨by rw [← hx]; exact h2.1, h1.later h2.2⟩
        have htop' := htop.stay hx
        clear hx htop
        go_wp2
        refine wp_region_quiet (C := fun w1 => HeapTo S len w' w1 len) (by kernel_rfl) (by kernel_rfl) hH.drew ?_
        iterate 4 (refine qstep_val (by rfl) _ (by intro w hw; go_simp; with_reducible rfl) ?_; simp only [Act.put, List.setIfInBounds_toArray, List.set_cons_zero, List.set_cons_succ])
        refine qstep_load (by rfl) 29 (.tmp 27) rfl hb (off + k * 64 + 32) (by rfl) (rowAt S (k * 64 + 32)) _ Rk.out Try.underlying29 rfl (by rw [Try.size29, size_rowAt]) ?_
        simp only [Act.put, List.setIfInBounds_toArray, List.set_cons_zero, List.set_cons_succ]
        iterate 4 (refine qstep_val (by rfl) _ (by intro w hw; go_simp; with_reducible rfl) ?_; simp only [Act.put, List.setIfInBounds_toArray, List.set_cons_zero, List.set_cons_succ])
        refine qstep_load (by rfl) 29 (.tmp 32) rfl hb (off + m * 64 + 32) (by rfl) (rowAt S (m * 64 + 32)) _ Rm.out Try.underlying29 rfl (by rw [Try.size29, size_rowAt]) ?_
        simp only [Act.put, List.setIfInBounds_toArray, List.set_cons_zero, List.set_cons_succ]
        refine qstep_call (by rfl) 8 #[.agg (rowAt S (k * 64 + 32)), .agg (rowAt S (m * 64 + 32))] (.bool false) (by intro w hw; go_simp) HC.out ?_
        simp only [Act.put, List.setIfInBounds_toArray, List.set_cons_zero, List.set_cons_succ]
        refine wpQuiet_nil ?_
        intro w4 hw4
        go_wp2
        go_roundw
        case rel => exact ⟨m, k + 1, by omega, by omega, rfl, by go_num, hw4, htop'⟩
        case measure => simp [intOf]; omega
      · have HC : Hid (∀ w1, HeapTo S len w' w1 len → Calls Try.prog 8 #[.agg (rowAt S (k * 64 + 32)), .agg (rowAt S (m * 64 + 32))] w1 fun e w2 => e = .returned (.bool true) ∧ HeapTo S len w' w2 len) :=
          fun w1 h1 => (greater_at hsrc hlt (show m < len by omega) w1).mono fun e w2 h2 => ⟨by rw [← hx]; exact h2.1, h1.later h2.2⟩
        have htop' := htop.move hx
        clear hx htop
        go_wp2
        refine wp_region_quiet (C := fun w1 => HeapTo S len w' w1 len) (by kernel_rfl) (by kernel_rfl) hH.drew ?_
        iterate 4 (refine qstep_val (by rfl) _ (by intro w hw; go_simp; with_reducible rfl) ?_; simp only [Act.put, List.setIfInBounds_toArray, List.set_cons_zero, List.set_cons_succ])
        refine qstep_load (by rfl) 29 (.tmp 27) rfl hb (off + k * 64 + 32) (by rfl) (rowAt S (k * 64 + 32)) _ Rk.out Try.underlying29 rfl (by rw [Try.size29, size_rowAt]) ?_
        simp only [Act.put, List.setIfInBounds_toArray, List.set_cons_zero, List.set_cons_succ]
        iterate 4 (refine qstep_val (by rfl) _ (by intro w hw; go_simp; with_reducible rfl) ?_; simp only [Act.put, List.setIfInBounds_toArray, List.set_cons_zero, List.set_cons_succ])
        refine qstep_load (by rfl) 29 (.tmp 32) rfl hb (off + m * 64 + 32) (by rfl) (rowAt S (m * 64 + 32)) _ Rm.out Try.underlying29 rfl (by rw [Try.size29, size_rowAt]) ?_
        simp only [Act.put, List.setIfInBounds_toArray, List.set_cons_zero, List.set_cons_succ]
        refine qstep_call (by rfl) 8 #[.agg (rowAt S (k * 64 + 32)), .agg (rowAt S (m * 64 + 32))] (.bool true) (by intro w hw; go_simp) HC.out ?_
        simp only [Act.put, List.setIfInBounds_toArray, List.set_cons_zero, List.set_cons_succ]
        refine wpQuiet_nil ?_
        intro w4 hw4
        go_wp2
        go_roundw
        case rel => exact ⟨k, k + 1, by omega, by omega, rfl, by go_num, hw4, htop'⟩
        case measure => simp [intOf]; omega
    · have : k = len := by omega
      subst this
      go_wp2
      go_loopw [6] (fun v6 wr => ∃ j : Nat, j ≤ k ∧ v6 = .int .i64 j ∧ HeapTo S k w' wr k) (fun i _ => k - (intOf i).toNat)
      case atStart => exact ⟨0, Nat.zero_le _, rfl, hH⟩
      case round =>
        clear hH
        obtain ⟨j, hj, rfl, hH⟩ := hrel
        by_cases hlt2 : j < k
        · have hixj := index22 (hsrc.addr (by omega)) hlt2 cap
          have Rj : Hid (∀ w1, HeapTo S k w' w1 k → w1.rangeAt hb (off + j * 64 + 32) (rowAt S (j * 64 + 32)).toList) := fun w1 h => by rw [Nat.add_assoc]; exact hsrc.range (by omega) h.below
          have hno := htop j hlt2
          have HL1 : Hid (Calls Try.prog 7 #[.slice (some ⟨w'.heap.size, 0, none⟩) k k, .int .i64 j, .int .i64 m] wr (CmpPost (.bool false) wr)) :=
            (less_at hsrc hH hlt2 (show m < k by omega)).mono fun e w2 h2 => ⟨by rw [← hno]; exact h2.1, h2.2⟩
          cases hs : sameRow (dist S j) (dist S m)
          · have hyes : gt (dist S m) (dist S j) 32 = true := by
              rcases gt_total (dist S j) (dist S m) 32 (by
                have : ¬ sameRow (dist S j) (dist S m) = true := by rw [hs]; exact Bool.false_ne_true
                rw [sameRow_iff] at this
                exact Classical.byContradiction fun hc => this fun i hi => Classical.byContradiction fun hne => hc ⟨i, hi, hne⟩) with h | h
              · rw [hno] at h; cases h
              · exact h
            have HN : Hid (∀ (w1 : World) (o : Oper) (act : Act) (x y : Operand) (r : TypeId), o.op = .binOp .neq 29 x y r → act.eval x = .agg (rowAt S (j * 64 + 32)) → act.eval y = .agg (rowAt S (m * 64 + 32)) → (execOp act.eval o).run Try.prog w1 = .ok (.value (.bool true)) w1) :=
              fun w1 o act x y r ho hx hy => by have := exec_neq w1 (hsrc.dist hlt2) (hsrc.dist (show m < k by omega)) x y r ho hx hy; rw [hs] at this; exact this
            have HL : Hid (∀ w1, HeapTo S k w' w1 k → Calls Try.prog 7 #[.slice (some ⟨w'.heap.size, 0, none⟩) k k, .int .i64 m, .int .i64 j] w1 fun e w2 => e = .returned (.bool true) ∧ HeapTo S k w' w2 k) :=
              fun w1 h1 => (less_at hsrc h1 (show m < k by omega) hlt2).mono fun e w2 h2 => ⟨by rw [← hyes]; exact h2.1, h1.later h2.2⟩
            clear hs hyes hno
            go_wp2_with fail
            refine Calls.mono HL1.out ?_
            rintro e w2 ⟨rfl, hb1⟩
            have hH2 := hH.later hb1
            clear HL1 hH hb1
            go_wp2
            refine wp_region_quiet (C := fun w1 => HeapTo S k w' w1 k) (by kernel_rfl) (by kernel_rfl) hH2.drew ?_
            iterate 4 (refine qstep_val (by rfl) _ (by intro w hw; go_simp; with_reducible rfl) ?_; simp only [Act.put, List.setIfInBounds_toArray, List.set_cons_zero, List.set_cons_succ])
            refine qstep_load (by rfl) 29 (.tmp 49) rfl hb (off + j * 64 + 32) (by rfl) (rowAt S (j * 64 + 32)) _ Rj.out Try.underlying29 rfl (by rw [Try.size29, size_rowAt]) ?_
            simp only [Act.put, List.setIfInBounds_toArray, List.set_cons_zero, List.set_cons_succ]
            iterate 4 (refine qstep_val (by rfl) _ (by intro w hw; go_simp; with_reducible rfl) ?_; simp only [Act.put, List.setIfInBounds_toArray, List.set_cons_zero, List.set_cons_succ])
            refine qstep_load (by rfl) 29 (.tmp 54) rfl hb (off + m * 64 + 32) (by rfl) (rowAt S (m * 64 + 32)) _ Rm.out Try.underlying29 rfl (by rw [Try.size29, size_rowAt]) ?_
            simp only [Act.put, List.setIfInBounds_toArray, List.set_cons_zero, List.set_cons_succ]
            refine qstep_val (by rfl) (.bool true) (fun w1 _ => HN.out w1 _ _ (.tmp 50) (.tmp 55) 29 rfl rfl rfl) ?_
            simp only [Act.put, List.setIfInBounds_toArray, List.set_cons_zero, List.set_cons_succ]
            (refine qstep_val (by rfl) _ (by intro w hw; go_simp; with_reducible rfl) ?_; simp only [Act.put, List.setIfInBounds_toArray, List.set_cons_zero, List.set_cons_succ])
            iterate 3 (refine qstep_val (by rfl) _ (by intro w hw; go_simp; with_reducible rfl) ?_; simp only [Act.put, List.setIfInBounds_toArray, List.set_cons_zero, List.set_cons_succ])
            refine qstep_call (by rfl) 7 #[.slice (some ⟨w'.heap.size, 0, none⟩) k k, .int .i64 m, .int .i64 j] (.bool true) (by intro w hw; go_simp) HL.out ?_
            simp only [Act.put, List.setIfInBounds_toArray, List.set_cons_zero, List.set_cons_succ]
            iterate 2 (refine qstep_val (by rfl) _ (by intro w hw; go_simp; with_reducible rfl) ?_; simp only [Act.put, List.setIfInBounds_toArray, List.set_cons_zero, List.set_cons_succ])
            refine wpQuiet_nil ?_
            intro w4 hw4
            go_wp2
            go_roundw
            case rel => exact ⟨j + 1, by omega, by go_num, hw4⟩
            case measure => simp [intOf]; omega
          · have HN : Hid (∀ (w1 : World) (o : Oper) (act : Act) (x y : Operand) (r : TypeId), o.op = .binOp .neq 29 x y r → act.eval x = .agg (rowAt S (j * 64 + 32)) → act.eval y = .agg (rowAt S (m * 64 + 32)) → (execOp act.eval o).run Try.prog w1 = .ok (.value (.bool false)) w1) :=
              fun w1 o act x y r ho hx hy => by have := exec_neq w1 (hsrc.dist hlt2) (hsrc.dist (show m < k by omega)) x y r ho hx hy; rw [hs] at this; exact this
            clear hs hno
            go_wp2_with fail
            refine Calls.mono HL1.out ?_
            rintro e w2 ⟨rfl, hb1⟩
            have hH2 := hH.later hb1
            clear HL1 hH hb1
            go_wp2
            refine wp_region_quiet (C := fun w1 => HeapTo S k w' w1 k) (by kernel_rfl) (by kernel_rfl) hH2.drew ?_
            iterate 4 (refine qstep_val (by rfl) _ (by intro w hw; go_simp; with_reducible rfl) ?_; simp only [Act.put, List.setIfInBounds_toArray, List.set_cons_zero, List.set_cons_succ])
            refine qstep_load (by rfl) 29 (.tmp 49) rfl hb (off + j * 64 + 32) (by rfl) (rowAt S (j * 64 + 32)) _ Rj.out Try.underlying29 rfl (by rw [Try.size29, size_rowAt]) ?_
            simp only [Act.put, List.setIfInBounds_toArray, List.set_cons_zero, List.set_cons_succ]
            iterate 4 (refine qstep_val (by rfl) _ (by intro w hw; go_simp; with_reducible rfl) ?_; simp only [Act.put, List.setIfInBounds_toArray, List.set_cons_zero, List.set_cons_succ])
            refine qstep_load (by rfl) 29 (.tmp 54) rfl hb (off + m * 64 + 32) (by rfl) (rowAt S (m * 64 + 32)) _ Rm.out Try.underlying29 rfl (by rw [Try.size29, size_rowAt]) ?_
            simp only [Act.put, List.setIfInBounds_toArray, List.set_cons_zero, List.set_cons_succ]
            refine qstep_val (by rfl) (.bool false) (fun w1 _ => HN.out w1 _ _ (.tmp 50) (.tmp 55) 29 rfl rfl rfl) ?_
            simp only [Act.put, List.setIfInBounds_toArray, List.set_cons_zero, List.set_cons_succ]
            (refine qstep_val (by rfl) _ (by intro w hw; go_simp; with_reducible rfl) ?_; simp only [Act.put, List.setIfInBounds_toArray, List.set_cons_zero, List.set_cons_succ])
            iterate 5 (refine Go.BigFrame.wpQuiet_skip (by rfl) ?_; simp only [Act.put, List.setIfInBounds_toArray, List.set_cons_zero, List.set_cons_succ])
            (refine qstep_val (by rfl) _ (by intro w hw; go_simp; with_reducible rfl) ?_; simp only [Act.put, List.setIfInBounds_toArray, List.set_cons_zero, List.set_cons_succ])
            refine wpQuiet_nil ?_
            intro w4 hw4
            go_wp2
            go_roundw
            case rel => exact ⟨j + 1, by omega, by go_num, hw4⟩
            case measure => simp [intOf]; omega
        · go_wp2
          go_ret
          exact ⟨rfl, hH.below⟩

end Go.Proofs.Qxb6614869a
