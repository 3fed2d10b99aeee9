/-
  The compensation that is dropped, as it lies in memory; what a drop of it opens, and in how many rounds.
-/
import Derived.Test.Qxb6614780aMem
namespace Go.Proofs.Qxb6614780a
open Go.RowKit

/-- Where the parts lie: N stacks; the group's row; the stacks' rows (0: the handled's own stack, which holds the group; i + 1: the group's i-th); their lengths; undo j of stack i + 1 and the link it names. -/
structure Lay where
  N : Nat
  gb : Nat
  sb : Nat → Nat
  m : Nat → Nat
  ub : Nat → Nat → Nat
  lk : Nat → Nat → Nat

/-- An item: (0, ..) the handled; (1, i, _) stack i; (2, ..) the group; (3, i, j) undo j of stack i + 1. -/
def Lay.val (Y : Lay) (it : Nat × Nat × Nat) : Value :=
  match it with
  | (0, _, _) => .iface 94 (.agg #[.slice (some ⟨Y.sb 0, 0, none⟩) 1 1, .nilIface])
  | (1, i, _) => .iface 82 (.slice (some ⟨Y.sb i, 0, none⟩) (Y.m i) (Y.m i))
  | (2, _, _) => .iface 80 (.slice (some ⟨Y.gb, 0, none⟩) Y.N Y.N)
  | (_, i, j) => .iface 83 (.pointer (some ⟨Y.ub i j, 0, none⟩))

/-- Element j of stack i. -/
def el (i j : Nat) : Nat × Nat × Nat := match i with | 0 => (2, 0, 0) | i + 1 => (3, i, j)

def Lay.kids (Y : Lay) (it : Nat × Nat × Nat) : List (Nat × Nat × Nat) :=
  match it with
  | (0, _, _) => [(1, 0, 0)]
  | (1, i, _) => (List.range (Y.m i)).map (el i)
  | (2, _, _) => (List.range Y.N).map fun i => (1, i + 1, 0)
  | _ => []

structure Mem (w : World) (Y : Lay) (n : Nat) : Prop where
  one : Y.m 0 = 1
  grp : ∃ c : Array Value, w.heap[Y.gb]? = some (.cells c 82 (0, 0)) ∧ ∀ i, i < Y.N → c[i]? = some (.slice (some ⟨Y.sb (i + 1), 0, none⟩) (Y.m (i + 1)) (Y.m (i + 1)))
  stk : ∀ i, i ≤ Y.N → ∃ c : Array Value, w.heap[Y.sb i]? = some (.cells c 89 (0, 0)) ∧ ∀ j, j < Y.m i → c[j * 2]? = some (Y.val (el i j)) ∧ c[j * 2 + 1]? = some (.int .i64 0)
  und : ∀ i, i < Y.N → ∀ j, j < Y.m (i + 1) → w.heap[Y.ub i j]? = some (.cells #[.nilIface, .int .i64 (Y.lk i j)] 87 (0, 0))
  lkn : ∀ i, i < Y.N → ∀ j, j < Y.m (i + 1) → Y.lk i j < n

section
variable {w : World} {Y : Lay} {n : Nat}
theorem Mem.of_blocks (h : Mem w Y n) {w' : World} (e : ∀ (b : Nat) (c : Array Value) (t : Nat) (f : Nat × Nat), (t = 82 ∨ t = 89 ∨ t = 87) → w.heap[b]? = some (Obj.cells c t f) → w'.heap[b]? = some (Obj.cells c t f)) : Mem w' Y n := by
  obtain ⟨h1, ⟨c, hc, hg⟩, h3, h4, h5⟩ := h
  refine ⟨h1, ⟨c, e _ _ _ _ (.inl rfl) hc, hg⟩, fun i hi => ?_, fun i hi j hj => e _ _ _ _ (.inr (.inr rfl)) (h4 i hi j hj), h5⟩
  obtain ⟨c', hc', hs⟩ := h3 i hi
  exact ⟨c', e _ _ _ _ (.inr (.inl rfl)) hc', hs⟩
theorem Mem.kept {ub n' : Nat} {ch : Nat → Nat} {s : GS} (h : Mem w Y n) {w' : World} (hg : Gates w ub n' ch s) (k : Kept (GS.Wr ub n' ch) w w') : Mem w' Y n :=
  h.of_blocks fun b c t f ht hb => k.at hb (wr_not_cells hg hb (by rcases ht with rfl | rfl | rfl <;> decide))
theorem Mem.gcell (h : Mem w Y n) {i : Nat} (hi : i < Y.N) : w.cell? ⟨Y.gb, i, none⟩ = some (.slice (some ⟨Y.sb (i + 1), 0, none⟩) (Y.m (i + 1)) (Y.m (i + 1))) := by
  obtain ⟨c, hb, hc⟩ := h.grp; simp [World.cell?, hb, hc i hi]
theorem Mem.scell (h : Mem w Y n) {i j : Nat} (hi : i ≤ Y.N) (hj : j < Y.m i) : w.cell? ⟨Y.sb i, j * 2, none⟩ = some (Y.val (el i j)) := by
  obtain ⟨c, hb, hc⟩ := h.stk i hi; simp [World.cell?, hb, (hc j hj).1]
theorem Mem.scell1 (h : Mem w Y n) {i j : Nat} (hi : i ≤ Y.N) (hj : j < Y.m i) : w.cell? ⟨Y.sb i, j * 2 + 1, none⟩ = some (.int .i64 0) := by
  obtain ⟨c, hb, hc⟩ := h.stk i hi; simp [World.cell?, hb, (hc j hj).2]
theorem Mem.ucell (h : Mem w Y n) {i j : Nat} (hi : i < Y.N) (hj : j < Y.m (i + 1)) : w.cell? ⟨Y.ub i j, 1, none⟩ = some (.int .i64 (Y.lk i j)) := by
  simp [World.cell?, h.und i hi j hj]
end

/-! ### What a drop opens, in its order -/
def Lay.sLnks (Y : Lay) (i : Nat) : List Nat := ((List.range (Y.m (i + 1))).map (Y.lk i)).reverse
def Lay.gLnks (Y : Lay) : List Nat := ((List.range Y.N).map Y.sLnks).reverse.flatten
def Lay.lnks (Y : Lay) (it : Nat × Nat × Nat) : List Nat :=
  match it with
  | (0, _, _) => Y.gLnks
  | (1, 0, _) => Y.gLnks
  | (1, i + 1, _) => Y.sLnks i
  | (2, _, _) => Y.gLnks
  | (_, i, j) => [Y.lk i j]
def Lay.todo (Y : Lay) (l : List (Nat × Nat × Nat)) : List Nat := (l.map Y.lnks).reverse.flatten

theorem todo_nil (Y : Lay) : Y.todo [] = [] := rfl
theorem todo_append (Y : Lay) (l l' : List (Nat × Nat × Nat)) : Y.todo (l ++ l') = Y.todo l' ++ Y.todo l := by simp [Lay.todo]
theorem todo_one (Y : Lay) (it : Nat × Nat × Nat) : Y.todo [it] = Y.lnks it := by simp [Lay.todo]

theorem todo_undos (Y : Lay) (i k : Nat) : Y.todo ((List.range k).map (el (i + 1))) = ((List.range k).map (Y.lk i)).reverse := by
  induction k with
  | zero => rfl
  | succ k ih => rw [List.range_succ, List.map_append, List.map_append, todo_append, ih]; simp [todo_one, el, Lay.lnks]
theorem todo_stacks (Y : Lay) (k : Nat) : Y.todo ((List.range k).map fun i => (1, i + 1, 0)) = ((List.range k).map Y.sLnks).reverse.flatten := by
  induction k with
  | zero => rfl
  | succ k ih => rw [List.range_succ, List.map_append, List.map_append, todo_append, ih]; simp [todo_one, Lay.lnks]

def opens (r : Option (Int × ByteArray)) (s : GS) (l : List Nat) : GS := l.foldl (opn r) s
theorem opens_append (r : Option (Int × ByteArray)) (s : GS) (l l' : List Nat) : opens r s (l ++ l') = opens r (opens r s l) l' := by simp [opens]
theorem opens_cons (r : Option (Int × ByteArray)) (s : GS) (i : Nat) (l : List Nat) : opens r s (i :: l) = opens r (opn r s i) l := rfl

/-! ### How many rounds -/
def sumTo (f : Nat → Nat) : Nat → Nat
  | 0 => 0
  | k + 1 => sumTo f k + f k
def Lay.gW (Y : Lay) : Nat := sumTo (fun i => Y.m (i + 1) + 1) Y.N + 1
def Lay.wt (Y : Lay) (it : Nat × Nat × Nat) : Nat :=
  match it with
  | (0, _, _) => Y.gW + 2
  | (1, 0, _) => Y.gW + 1
  | (1, i + 1, _) => Y.m (i + 1) + 1
  | (2, _, _) => Y.gW
  | _ => 1
def Lay.wts (Y : Lay) (l : List (Nat × Nat × Nat)) : Nat := (l.map Y.wt).sum

theorem wts_append (Y : Lay) (l l' : List (Nat × Nat × Nat)) : Y.wts (l ++ l') = Y.wts l + Y.wts l' := by simp [Lay.wts]
theorem wts_one (Y : Lay) (it : Nat × Nat × Nat) : Y.wts [it] = Y.wt it := by simp [Lay.wts]
theorem wt_pos (Y : Lay) (it : Nat × Nat × Nat) : 1 ≤ Y.wt it := by
  unfold Lay.wt Lay.gW
  split <;> omega
theorem len_wts (Y : Lay) (l : List (Nat × Nat × Nat)) : l.length ≤ Y.wts l := by
  induction l with
  | nil => simp
  | cons it l ih => have := wt_pos Y it; have e : Y.wts (it :: l) = Y.wt it + Y.wts l := by simp [Lay.wts]
                    rw [e]; simp; omega
theorem wts_undos (Y : Lay) (i k : Nat) : Y.wts ((List.range k).map (el (i + 1))) = k := by
  induction k with
  | zero => rfl
  | succ k ih => rw [List.range_succ, List.map_append, wts_append, ih]; simp [wts_one, el, Lay.wt]
theorem wts_stacks (Y : Lay) (k : Nat) : Y.wts ((List.range k).map fun i => (1, i + 1, 0)) = sumTo (fun i => Y.m (i + 1) + 1) k := by
  induction k with
  | zero => rfl
  | succ k ih => rw [List.range_succ, List.map_append, wts_append, ih]; simp [wts_one, Lay.wt, sumTo]

/-- An item of this layout. -/
def Lay.ok (Y : Lay) (it : Nat × Nat × Nat) : Prop :=
  it = (0, 0, 0) ∨ (∃ i, i ≤ Y.N ∧ it = (1, i, 0)) ∨ it = (2, 0, 0) ∨ ∃ i j, i < Y.N ∧ j < Y.m (i + 1) ∧ it = (3, i, j)

/-- A stack's kids: what they open, and in how many rounds. -/
theorem todo_stack (Y : Lay) (one : Y.m 0 = 1) (i : Nat) : Y.todo ((List.range (Y.m i)).map (el i)) = Y.lnks (1, i, 0) := by
  match i with
  | 0 => rw [one]; simp [List.range_succ, todo_one, el, Lay.lnks]
  | i + 1 => rw [todo_undos]; rfl
theorem wts_stack (Y : Lay) (one : Y.m 0 = 1) (i : Nat) : Y.wts ((List.range (Y.m i)).map (el i)) + 1 = Y.wt (1, i, 0) := by
  match i with
  | 0 => rw [one]; simp [List.range_succ, wts_one, el, Lay.wt]
  | i + 1 => rw [wts_undos]; rfl
theorem todo_group (Y : Lay) : Y.todo ((List.range Y.N).map fun i => (1, i + 1, 0)) = Y.lnks (2, 0, 0) := todo_stacks Y _
theorem wts_group (Y : Lay) : Y.wts ((List.range Y.N).map fun i => (1, i + 1, 0)) + 1 = Y.wt (2, 0, 0) := by rw [wts_stacks]; rfl
theorem ok_el (Y : Lay) {i j : Nat} (hi : i ≤ Y.N) (hj : j < Y.m i) : Y.ok (el i j) := by
  match i, hi, hj with
  | 0, _, _ => exact .inr (.inr (.inl rfl))
  | i + 1, hi, hj => exact .inr (.inr (.inr ⟨i, j, by omega, hj, rfl⟩))

end Go.Proofs.Qxb6614780a
