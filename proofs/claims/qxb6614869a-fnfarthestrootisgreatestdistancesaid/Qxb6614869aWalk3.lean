/-
  FnFarthestLessIsStrictNumericOrder: the walk.
-/
import Derived.Test.Qxb6614869aBytes
namespace Go.Proofs.Qxb6614869a
open Go.RowKit
set_option linter.unusedSimpArgs false

def TruePost (w : World) (e : Ending) (w' : World) : Prop := e = .returned (.bool true) ∧ Below w.heap.size w w'

/-- The distance of element i, by index. -/
def dist (S : Nat → Int) (i : Nat) : Nat → Int := fun k => S (i * 64 + 32 + k)
theorem Src.dist {w : World} {ao : Option Addr} {hb off len : Nat} {S : Nat → Int} (h : Src w ao hb off len S) {i : Nat} (hi : i < len) : Row (rowAt S (i * 64 + 32)) (dist S i) := h.row (by omega)
theorem HeapTo.range {S : Nat → Int} {len : Nat} {w wr : World} (h : HeapTo S len w wr len) {o : Nat} (ho : o + 32 ≤ len * 64) : wr.rangeAt w.heap.size o (rowAt S o).toList := by
  intro j v hv
  simp only [rowAt, List.getElem?_map, Option.map_eq_some_iff] at hv
  obtain ⟨k, hk, rfl⟩ := hv
  rw [List.getElem?_eq_some_iff] at hk
  obtain ⟨hlt, hk⟩ := hk
  simp at hlt hk
  subst hk
  exact h.cell _ (by omega)

/-- Less, at the heap that zzHeap has made, in whatever later world. -/
theorem less_at {S : Nat → Int} {len : Nat} {w wr : World} {ao : Option Addr} {hb off : Nat} (hsrc : Src w ao hb off len S) (hH : HeapTo S len w wr len) {i j : Nat} (hi : i < len) (hj : j < len) :
    Calls Try.prog 7 #[.slice (some ⟨w.heap.size, 0, none⟩) len len, .int .i64 i, .int .i64 j] wr (CmpPost (.bool (gt (dist S i) (dist S j) 32)) wr) :=
  less_any w.heap.size len len i j hi hj _ _ _ _ (hsrc.dist hi) (hsrc.dist hj) wr hH.lt (hH.range (by omega)) (hH.range (by omega))

theorem greater_at {S : Nat → Int} {len : Nat} {w : World} {ao : Option Addr} {hb off : Nat} (hsrc : Src w ao hb off len S) {i j : Nat} (hi : i < len) (hj : j < len) (wr : World) :
    Calls Try.prog 8 #[.agg (rowAt S (i * 64 + 32)), .agg (rowAt S (j * 64 + 32))] wr (CmpPost (.bool (gt (dist S i) (dist S j) 32)) wr) := by
  refine (greater_any _ _ _ _ (hsrc.dist hi) (hsrc.dist hj) wr).mono ?_
  rintro e w' ⟨rfl, m, rfl⟩
  exact ⟨rfl, below_drewN (((Below.refl _ _).alloc (Nat.le_refl _) _).alloc (by simp) _) m⟩

set_option maxRecDepth 100000 in
set_option maxHeartbeats 1600000 in
theorem walk3 (ao : Option Addr) (hb off len cap : Nat) (S : Nat → Int) (iI jI : Int) (w : World) (hsrc : Src w ao hb off len S) (hlen : len ≤ maxLen) :
    Calls Try.prog 3 #[.slice ao len cap, .int .i64 iI, .int .i64 jI] w (TruePost w) := by
  have hlen' := hlen
  unfold maxLen at hlen
  go_enter Try.func3, Try.ntmps3
  go_wp2_with fail
  refine (bytes5_any ao len cap iI jI w hlen').mono ?_
  rintro e w' ⟨r, rfl, rfl⟩
  cases r with
  | false => go_wp2; go_ret; exact ⟨rfl, Below.refl _ _⟩
  | true =>
  by_cases g1 : len ≤ 16384
  rotate_left
  · go_wp2; go_ret; exact ⟨rfl, Below.refl _ _⟩
  have d1 : decide ((16384 : Int) < (len : Int)) = false := by simp; omega
  by_cases g2 : iI < 0
  · go_wp2; go_ret; exact ⟨rfl, Below.refl _ _⟩
  have d2 : decide (iI < 0) = false := by simpa using g2
  by_cases g3 : iI < len
  rotate_left
  · have d3 : decide ((len : Int) ≤ iI) = true := by simp; omega
    go_wp2; go_ret; exact ⟨rfl, Below.refl _ _⟩
  have d3 : decide ((len : Int) ≤ iI) = false := by simp; omega
  by_cases g4 : jI < 0
  · go_wp2; go_ret; exact ⟨rfl, Below.refl _ _⟩
  have d4 : decide (jI < 0) = false := by simpa using g4
  by_cases g5 : jI < len
  rotate_left
  · have d5 : decide ((len : Int) ≤ jI) = true := by simp; omega
    go_wp2; go_ret; exact ⟨rfl, Below.refl _ _⟩
  have d5 : decide ((len : Int) ≤ jI) = false := by simp; omega
  obtain ⟨i, rfl⟩ := Int.eq_ofNat_of_zero_le (show 0 ≤ iI by omega)
  obtain ⟨j, rfl⟩ := Int.eq_ofNat_of_zero_le (show 0 ≤ jI by omega)
  have hi : i < len := by omega
  have hj : j < len := by omega
  clear g2 g3 g4 g5
  go_wp2_with fail
  refine (heap_any ao hb off len cap S w' hsrc (by omega)).mono ?_
  rintro e w1 ⟨rfl, hH⟩
  have X1 := less_at hsrc hH hi hj
  have HX1 : Hid (Calls Try.prog 7 #[.slice (some ⟨w'.heap.size, 0, none⟩) len len, .int .i64 i, .int .i64 j] w1 (CmpPost (.bool (gt (dist S i) (dist S j) 32)) w1)) := X1
  clear X1
  go_wp2_with fail
  refine Calls.mono HX1.out ?_
  rintro e w2 ⟨rfl, hb1⟩
  clear HX1
  have hH2 := hH.later hb1
  have X2 := less_at hsrc hH2 hj hi
  have HX2 : Hid (Calls Try.prog 7 #[.slice (some ⟨w'.heap.size, 0, none⟩) len len, .int .i64 j, .int .i64 i] w2 (CmpPost (.bool (gt (dist S j) (dist S i) 32)) w2)) := X2
  clear X2
  have xc := fun wr => greater_at hsrc hi hj wr
  have yc := fun wr => greater_at hsrc hj hi wr
  generalize gt (dist S i) (dist S j) 32 = x at xc
  generalize gt (dist S j) (dist S i) 32 = y at yc HX2
  go_wp2_with fail
  refine Calls.mono HX2.out ?_
  rintro e w3 ⟨rfl, hb2⟩
  clear HX2
  have hH3 := hH2.later hb2
  have x_call : ∀ w1, Below w'.heap.size w' w1 → Calls Try.prog 8 #[.agg (rowAt S (i * 64 + 32)), .agg (rowAt S (j * 64 + 32))] w1 fun e w2 => e = .returned (.bool x) ∧ Below w'.heap.size w' w2 :=
    fun w1 h1 => (xc w1).mono fun e w2 h2 => ⟨h2.1, h1.trans (h2.2.mono h1.size)⟩
  have y_call : ∀ w1, Below w'.heap.size w' w1 → Calls Try.prog 8 #[.agg (rowAt S (j * 64 + 32)), .agg (rowAt S (i * 64 + 32))] w1 fun e w2 => e = .returned (.bool y) ∧ Below w'.heap.size w' w2 :=
    fun w1 h1 => (yc w1).mono fun e w2 h2 => ⟨h2.1, h1.trans (h2.2.mono h1.size)⟩
  have ri : ∀ w1, Below w'.heap.size w' w1 → w1.rangeAt hb (off + i * 64 + 32) (rowAt S (i * 64 + 32)).toList := fun w1 h => by rw [Nat.add_assoc]; exact hsrc.range (by omega) h
  have rj : ∀ w1, Below w'.heap.size w' w1 → w1.rangeAt hb (off + j * 64 + 32) (rowAt S (j * 64 + 32)).toList := fun w1 h => by rw [Nat.add_assoc]; exact hsrc.range (by omega) h
  have hixi := index22 (hsrc.addr (by omega)) hi cap
  have hixj := index22 (hsrc.addr (by omega)) hj cap
  have hB := hH3.below
  clear hH hH2 hH3 hb1 hb2 xc yc
  have HX : Hid _ := x_call
  have HY : Hid _ := y_call
  have HI : Hid _ := ri
  have HJ : Hid _ := rj
  clear x_call y_call ri rj
  go_wp2
  refine wp_region_quiet (C := Below w'.heap.size w') (by kernel_rfl) (by kernel_rfl) hB.drew ?_
  iterate 5 (refine qstep_val (by rfl) _ (by intro w hw; go_simp; with_reducible rfl) ?_; simp only [Act.put, List.setIfInBounds_toArray, List.set_cons_zero, List.set_cons_succ])
  refine qstep_load (by rfl) 29 (.tmp 50) rfl hb (off + i * 64 + 32) (by rfl) (rowAt S (i * 64 + 32)) _ (HI.out) Try.underlying29 rfl (by rw [Try.size29, size_rowAt]) ?_
  simp only [Act.put, List.setIfInBounds_toArray, List.set_cons_zero, List.set_cons_succ]
  iterate 4 (refine qstep_val (by rfl) _ (by intro w hw; go_simp; with_reducible rfl) ?_; simp only [Act.put, List.setIfInBounds_toArray, List.set_cons_zero, List.set_cons_succ])
  refine qstep_load (by rfl) 29 (.tmp 55) rfl hb (off + j * 64 + 32) (by rfl) (rowAt S (j * 64 + 32)) _ (HJ.out) Try.underlying29 rfl (by rw [Try.size29, size_rowAt]) ?_
  simp only [Act.put, List.setIfInBounds_toArray, List.set_cons_zero, List.set_cons_succ]
  refine qstep_call (by rfl) 8 #[.agg (rowAt S (i * 64 + 32)), .agg (rowAt S (j * 64 + 32))] (.bool x) (by intro w hw; go_simp) (HX.out) ?_
  simp only [Act.put, List.setIfInBounds_toArray, List.set_cons_zero, List.set_cons_succ]
  iterate 2 (refine qstep_val (by rfl) _ (by intro w hw; go_simp; with_reducible rfl) ?_; simp only [Act.put, List.setIfInBounds_toArray, List.set_cons_zero, List.set_cons_succ])
  iterate 5 (refine qstep_val (by rfl) _ (by intro w hw; go_simp; with_reducible rfl) ?_; simp only [Act.put, List.setIfInBounds_toArray, List.set_cons_zero, List.set_cons_succ])
  refine qstep_load (by rfl) 29 (.tmp 64) rfl hb (off + j * 64 + 32) (by rfl) (rowAt S (j * 64 + 32)) _ (HJ.out) Try.underlying29 rfl (by rw [Try.size29, size_rowAt]) ?_
  simp only [Act.put, List.setIfInBounds_toArray, List.set_cons_zero, List.set_cons_succ]
  iterate 4 (refine qstep_val (by rfl) _ (by intro w hw; go_simp; with_reducible rfl) ?_; simp only [Act.put, List.setIfInBounds_toArray, List.set_cons_zero, List.set_cons_succ])
  refine qstep_load (by rfl) 29 (.tmp 69) rfl hb (off + i * 64 + 32) (by rfl) (rowAt S (i * 64 + 32)) _ (HI.out) Try.underlying29 rfl (by rw [Try.size29, size_rowAt]) ?_
  simp only [Act.put, List.setIfInBounds_toArray, List.set_cons_zero, List.set_cons_succ]
  refine qstep_call (by rfl) 8 #[.agg (rowAt S (j * 64 + 32)), .agg (rowAt S (i * 64 + 32))] (.bool y) (by intro w hw; go_simp) (HY.out) ?_
  simp only [Act.put, List.setIfInBounds_toArray, List.set_cons_zero, List.set_cons_succ]
  iterate 3 (refine qstep_val (by rfl) _ (by intro w hw; go_simp; with_reducible rfl) ?_; simp only [Act.put, List.setIfInBounds_toArray, List.set_cons_zero, List.set_cons_succ])
  refine wpQuiet_nil ?_
  intro w4 hw4
  go_wp2
  go_ret
  exact ⟨rfl, hw4⟩

end Go.Proofs.Qxb6614869a
