/-
  The memory that the two laws make, said of worlds alone (no program): gates, channels, reaches, the compensation that is dropped.
-/
import Derived.WalkKit
import Derived.Deep.OwnRows
namespace Go.Proofs.Qxb6614780a
open Go.RowKit

/-! ### A frame: only blocks of S, and new ones, may have turned. -/
structure Kept (S : Nat → Prop) (w w' : World) : Prop where
  os : w'.os = w.os
  tape : w'.tape = w.tape
  output : w'.output = w.output
  size : w.heap.size ≤ w'.heap.size
  block : ∀ k, k < w.heap.size → ¬ S k → w'.heap[k]? = w.heap[k]?

theorem Kept.refl (S : Nat → Prop) (w : World) : Kept S w w := ⟨rfl, rfl, rfl, Nat.le_refl _, fun _ _ _ => rfl⟩
theorem Kept.trans {S : Nat → Prop} {a b c : World} (h : Kept S a b) (k : Kept S b c) : Kept S a c :=
  ⟨k.os.trans h.os, k.tape.trans h.tape, k.output.trans h.output, Nat.le_trans h.size k.size,
    fun i hi hs => (k.block i (Nat.lt_of_lt_of_le hi h.size) hs).trans (h.block i hi hs)⟩
theorem Kept.drew {S : Nat → Prop} {a w : World} (h : Kept S a w) : Kept S a w.drew := ⟨h.os, h.tape, h.output, h.size, h.block⟩
theorem Kept.alloc {S : Nat → Prop} {a w : World} (h : Kept S a w) (o : Obj) : Kept S a (w.alloc o) :=
  h.trans ⟨rfl, rfl, rfl, by simp, fun k hk _ => Below.heap_alloc _ _ _ hk⟩
theorem Kept.setCell {S : Nat → Prop} {a w : World} (h : Kept S a w) {p : Addr} (hp : S p.block ∨ a.heap.size ≤ p.block) (u : Value) : Kept S a (w.setCell p u) := by
  refine ⟨h.os, h.tape, h.output, by simpa [World.setCell] using h.size, fun k hk hs => ?_⟩
  rw [Below.heap_setCell _ _ _ _ (by rintro rfl; rcases hp with hp | hp; exact hs hp; omega)]
  exact h.block k hk hs
theorem Kept.grown {S : Nat → Prop} {a w w' : World} {row : Option Nat} (h : Kept S a w) (hg : w.grownBy w' row) (hr : ∀ k, row = some k → S k ∨ a.heap.size ≤ k) : Kept S a w' := by
  refine ⟨hg.os.trans h.os, hg.tape.trans h.tape, hg.output.trans h.output, Nat.le_trans h.size hg.size, fun k hk hs => ?_⟩
  rw [hg.block k (Nat.lt_of_lt_of_le hk h.size) (fun e => by rcases hr k e.symm with h1 | h1; exact hs h1; omega)]
  exact h.block k hk hs
theorem Kept.mono {S T : Nat → Prop} {w w' : World} (h : Kept S w w') (hst : ∀ k, k < w.heap.size → S k → T k) : Kept T w w' :=
  ⟨h.os, h.tape, h.output, h.size, fun k hk ht => h.block k hk fun hs => ht (hst k hk hs)⟩
theorem Kept.below {S : Nat → Prop} {w w' : World} {B : Nat} (h : Kept S w w') (hB : B ≤ w.heap.size) (hs : ∀ k, k < B → ¬ S k) : Below B w w' :=
  ⟨h.os, h.tape, h.output, h.size, fun k hk => h.block k (by omega) (hs k hk)⟩
theorem lt_of_heap {w : World} {b : Nat} {o : Obj} (h : w.heap[b]? = some o) : b < w.heap.size := (Array.getElem?_eq_some_iff.1 h).1
theorem Kept.at {S : Nat → Prop} {w w' : World} (h : Kept S w w') {b : Nat} {o : Obj} (hb : w.heap[b]? = some o) (hs : ¬ S b) : w'.heap[b]? = some o :=
  (h.block b (lt_of_heap hb) hs).trans hb

/-! ### The gates -/
structure GS where
  sh : Nat → Bool
  ln : Nat → Int
  be : Nat → ByteArray

def upd {α : Type} (f : Nat → α) (i : Nat) (x : α) : Nat → α := fun j => if j = i then x else f j

def b01 (b : Bool) : Int := if b then 1 else 0

/-- Block ub holds n gates; gate i's channel is block ch i, open while the gate is not yet open. -/
structure Gates (w : World) (ub n : Nat) (ch : Nat → Nat) (s : GS) : Prop where
  row : ∃ c : Array Value, w.heap[ub]? = some (.cells c 78 (0, 0)) ∧ c.size = n * 4 ∧ ∀ i, i < n → c[i * 4]? = some (.chan (some (ch i))) ∧ c[i * 4 + 1]? = some (.int .u32 (b01 (s.sh i))) ∧
    c[i * 4 + 2]? = some (.int .i64 (s.ln i)) ∧ c[i * 4 + 3]? = some (.string (s.be i))
  chan : ∀ i, i < n → w.heap[ch i]? = some (.chan 0 #[] (s.sh i) 0 0 false)
  inj : ∀ i j, i < n → j < n → ch i = ch j → i = j

section
variable {w : World} {ub n : Nat} {ch : Nat → Nat} {s : GS}
theorem Gates.c0 (h : Gates w ub n ch s) {i : Nat} (hi : i < n) : w.cell? ⟨ub, i * 4, none⟩ = some (.chan (some (ch i))) := by
  obtain ⟨c, hb, _, hc⟩ := h.row; simp [World.cell?, hb, (hc i hi).1]
theorem Gates.c1 (h : Gates w ub n ch s) {i : Nat} (hi : i < n) : w.cell? ⟨ub, i * 4 + 1, none⟩ = some (.int .u32 (b01 (s.sh i))) := by
  obtain ⟨c, hb, _, hc⟩ := h.row; simp [World.cell?, hb, (hc i hi).2.1]
theorem Gates.c2 (h : Gates w ub n ch s) {i : Nat} (hi : i < n) : w.cell? ⟨ub, i * 4 + 2, none⟩ = some (.int .i64 (s.ln i)) := by
  obtain ⟨c, hb, _, hc⟩ := h.row; simp [World.cell?, hb, (hc i hi).2.2.1]
theorem Gates.c3 (h : Gates w ub n ch s) {i : Nat} (hi : i < n) : w.cell? ⟨ub, i * 4 + 3, none⟩ = some (.string (s.be i)) := by
  obtain ⟨c, hb, _, hc⟩ := h.row; simp [World.cell?, hb, (hc i hi).2.2.2]
theorem Gates.free (h : Gates w ub n ch s) (j : Nat) : w.frozen? ⟨ub, j, none⟩ = false := by
  obtain ⟨c, hb, _, _⟩ := h.row; simp [World.frozen?, hb]
theorem Gates.lt (h : Gates w ub n ch s) : ub < w.heap.size := by
  obtain ⟨c, hb, _, _⟩ := h.row; exact lt_of_heap hb
theorem Gates.ch_lt (h : Gates w ub n ch s) {i : Nat} (hi : i < n) : ch i < w.heap.size := lt_of_heap (h.chan i hi)
theorem Gates.ch_ne (h : Gates w ub n ch s) {i : Nat} (hi : i < n) : ch i ≠ ub := by
  intro e
  obtain ⟨c, hb, _, _⟩ := h.row
  have := h.chan i hi
  rw [e, hb] at this
  simp at this
/-- The same memory, the same blocks. -/
theorem Gates.of_blocks (h : Gates w ub n ch s) {w' : World} (h1 : w'.heap[ub]? = w.heap[ub]?) (h2 : ∀ i, i < n → w'.heap[ch i]? = w.heap[ch i]?) : Gates w' ub n ch s := by
  obtain ⟨⟨c, hb, hs, hc⟩, h3, h4⟩ := h
  exact ⟨⟨c, h1.trans hb, hs, hc⟩, fun i hi => (h2 i hi).trans (h3 i hi), h4⟩
theorem Gates.alloc (h : Gates w ub n ch s) (o : Obj) : Gates (w.alloc o) ub n ch s :=
  h.of_blocks (Below.heap_alloc _ _ _ h.lt) fun _ hi => Below.heap_alloc _ _ _ (h.ch_lt hi)
theorem Gates.drew (h : Gates w ub n ch s) : Gates w.drew ub n ch s := h.of_blocks rfl fun _ _ => rfl
theorem Gates.setCell (h : Gates w ub n ch s) {p : Addr} (h1 : p.block ≠ ub) (h2 : ∀ i, i < n → p.block ≠ ch i) (v : Value) : Gates (w.setCell p v) ub n ch s :=
  h.of_blocks (Below.heap_setCell _ _ _ _ (Ne.symm h1)) fun i hi => Below.heap_setCell _ _ _ _ (Ne.symm (h2 i hi))
theorem Gates.kept (h : Gates w ub n ch s) {S : Nat → Prop} {w' : World} (k : Kept S w w') (h1 : ¬ S ub) (h2 : ∀ i, i < n → ¬ S (ch i)) : Gates w' ub n ch s :=
  h.of_blocks (k.block _ h.lt h1) fun i hi => k.block _ (h.ch_lt hi) (h2 i hi)
end

/-! ### A reach, or none -/
def IsReach (w : World) (v : Value) : Option (Int × ByteArray) → Prop
  | none => v = .pointer none
  | some (l, b) => ∃ rb, v = .pointer (some ⟨rb, 0, none⟩) ∧ w.heap[rb]? = some (.cells #[.int .i64 l, .string b] 76 (0, 0))

theorem IsReach.kept {w w' : World} {S : Nat → Prop} {v : Value} {r : Option (Int × ByteArray)} (h : IsReach w v r) (k : Kept S w w') (hs : ∀ rb c, w.heap[rb]? = some (.cells c 76 (0, 0)) → ¬ S rb) : IsReach w' v r := by
  match r with
  | none => exact h
  | some (l, b) => obtain ⟨rb, hv, hb⟩ := h; exact ⟨rb, hv, k.at hb (hs _ _ hb)⟩

/-! ### What opening does to the gates' state -/
def opn (r : Option (Int × ByteArray)) (s : GS) (i : Nat) : GS :=
  if s.sh i then s else
    { sh := upd s.sh i true
      ln := match r with | none => s.ln | some p => upd s.ln i p.1
      be := match r with | none => s.be | some p => upd s.be i p.2 }

/-- What may be written by a drop: the gates' row and their channels. -/
def GS.Wr (ub n : Nat) (ch : Nat → Nat) (k : Nat) : Prop := k = ub ∨ ∃ i, i < n ∧ k = ch i

theorem wr_not_cells {w : World} {ub n : Nat} {ch : Nat → Nat} {s : GS} (h : Gates w ub n ch s) {b t : Nat} {c : Array Value} {f : Nat × Nat} (hb : w.heap[b]? = some (.cells c t f)) (ht : t ≠ 78) : ¬ GS.Wr ub n ch b := by
  rintro (rfl | ⟨i, hi, rfl⟩)
  · obtain ⟨c', hb', _, _⟩ := h.row
    rw [hb] at hb'; simp at hb'; exact ht hb'.2.1
  · rw [h.chan i hi] at hb; simp at hb

/-! ### The world behind 'open' -/
def closed (w : World) (c : Nat) : World := { w with heap := w.heap.setIfInBounds c (.chan 0 #[] true 0 0 false) }

theorem heap_closed_other (w : World) (c k : Nat) (h : k ≠ c) : (closed w c).heap[k]? = w.heap[k]? := by
  simp [closed, Ne.symm h]
theorem heap_closed_same (w : World) (c : Nat) (h : c < w.heap.size) : (closed w c).heap[c]? = some (.chan 0 #[] true 0 0 false) := by
  simp [closed, h]
theorem size_closed (w : World) (c : Nat) : (closed w c).heap.size = w.heap.size := by simp [closed]

theorem heap_setCell_same {w : World} {b o : Nat} {c : Array Value} {t : TypeId} {f : Nat × Nat} (hb : w.heap[b]? = some (.cells c t f)) (v : Value) : (w.setCell ⟨b, o, none⟩ v).heap[b]? = some (.cells (c.setIfInBounds o v) t f) := by
  simp [World.setCell, Array.getElem?_modify, hb]

theorem Kept.closed {S : Nat → Prop} {a w : World} (h : Kept S a w) {c : Nat} (hc : S c) : Kept S a (closed w c) := by
  refine ⟨h.os, h.tape, h.output, by rw [size_closed]; exact h.size, fun k hk hs => ?_⟩
  rw [heap_closed_other _ _ _ (by rintro rfl; exact hs hc)]
  exact h.block k hk hs

section
variable {w : World} {ub n : Nat} {ch : Nat → Nat} {s : GS}
/-- the shut word stored again -/
theorem Gates.again (h : Gates w ub n ch s) {i : Nat} (hi : i < n) (hs : s.sh i = true) : Gates (w.setCell ⟨ub, i * 4 + 1, none⟩ (.int .u32 1)) ub n ch s := by
  obtain ⟨⟨c, hb, hsz, hc⟩, h3, h4⟩ := h
  have hne : ∀ j, j < n → ch j ≠ ub := fun j hj => Gates.ch_ne ⟨⟨c, hb, hsz, hc⟩, h3, h4⟩ hj
  refine ⟨⟨_, heap_setCell_same hb _, by simpa using hsz, fun j hj => ?_⟩, fun j hj => ?_, h4⟩
  · obtain ⟨a0, a1, a2, a3⟩ := hc j hj
    simp only [Array.getElem?_setIfInBounds]
    refine ⟨by rw [if_neg (by omega)]; exact a0, ?_, by rw [if_neg (by omega)]; exact a2, by rw [if_neg (by omega)]; exact a3⟩
    by_cases e : i = j
    · subst e; rw [if_pos rfl, if_pos (by omega)]; simp [b01, hs]
    · rw [if_neg (by omega)]; exact a1
  · rw [Below.heap_setCell _ _ _ _ (hne j hj)]; exact h3 j hj

theorem Gates.opened_some (h : Gates w ub n ch s) {i : Nat} (hi : i < n) (hs : s.sh i = false) (l : Int) (b : ByteArray) :
    Gates (closed ((((w.setCell ⟨ub, i * 4 + 1, none⟩ (.int .u32 1)).setCell ⟨ub, i * 4 + 2, none⟩ (.int .i64 l)).setCell ⟨ub, i * 4 + 2 + 1, none⟩ (.string b)).drew) (ch i)) ub n ch (opn (some (l, b)) s i) := by
  obtain ⟨⟨c, hb, hsz, hc⟩, h3, h4⟩ := h
  have hne : ∀ j, j < n → ch j ≠ ub := fun j hj => Gates.ch_ne ⟨⟨c, hb, hsz, hc⟩, h3, h4⟩ hj
  have e1 := heap_setCell_same (o := i * 4 + 1) hb (.int .u32 1)
  have e2 := heap_setCell_same (o := i * 4 + 2) e1 (.int .i64 l)
  have e3 := heap_setCell_same (o := i * 4 + 2 + 1) e2 (.string b)
  refine ⟨⟨_, (heap_closed_other _ _ _ (Ne.symm (hne i hi))).trans e3, by simpa using hsz, fun j hj => ?_⟩, fun j hj => ?_, h4⟩
  · obtain ⟨a0, a1, a2, a3⟩ := hc j hj
    simp only [Array.getElem?_setIfInBounds, Array.size_setIfInBounds, opn, hs, Bool.false_eq_true, if_false, upd]
    by_cases e : i = j
    · subst e
      refine ⟨?_, ?_, ?_, ?_⟩
      · rw [if_neg (by omega), if_neg (by omega), if_neg (by omega)]; exact a0
      · rw [if_neg (by omega), if_neg (by omega), if_pos rfl, if_pos (by omega)]; simp [b01]
      · rw [if_neg (by omega), if_pos rfl, if_pos (by omega)]; simp
      · rw [if_pos (by omega), if_pos (by omega)]; simp
    · have e' : ¬ j = i := fun h => e h.symm
      simp only [if_neg e']
      refine ⟨?_, ?_, ?_, ?_⟩
      · rw [if_neg (by omega), if_neg (by omega), if_neg (by omega)]; exact a0
      · rw [if_neg (by omega), if_neg (by omega), if_neg (by omega)]; exact a1
      · rw [if_neg (by omega), if_neg (by omega), if_neg (by omega)]; exact a2
      · rw [if_neg (by omega), if_neg (by omega), if_neg (by omega)]; exact a3
  · by_cases e : j = i
    · subst e
      rw [heap_closed_same _ _ (by have := lt_of_heap (h3 j hj); simpa [World.setCell, World.drew] using this)]
      simp [opn, hs, upd]
    · rw [heap_closed_other _ _ _ (fun e' => e (h4 j i hj hi e'))]
      show (World.setCell _ _ _).heap[ch j]? = _
      rw [Below.heap_setCell _ _ _ _ (hne j hj), Below.heap_setCell _ _ _ _ (hne j hj), Below.heap_setCell _ _ _ _ (hne j hj), h3 j hj]
      simp [opn, hs, upd, e]

theorem Gates.opened_none (h : Gates w ub n ch s) {i : Nat} (hi : i < n) (hs : s.sh i = false) :
    Gates (closed ((w.setCell ⟨ub, i * 4 + 1, none⟩ (.int .u32 1)).drew) (ch i)) ub n ch (opn none s i) := by
  obtain ⟨⟨c, hb, hsz, hc⟩, h3, h4⟩ := h
  have hne : ∀ j, j < n → ch j ≠ ub := fun j hj => Gates.ch_ne ⟨⟨c, hb, hsz, hc⟩, h3, h4⟩ hj
  have e1 := heap_setCell_same (o := i * 4 + 1) hb (.int .u32 1)
  refine ⟨⟨_, (heap_closed_other _ _ _ (Ne.symm (hne i hi))).trans e1, by simpa using hsz, fun j hj => ?_⟩, fun j hj => ?_, h4⟩
  · obtain ⟨a0, a1, a2, a3⟩ := hc j hj
    simp only [Array.getElem?_setIfInBounds, opn, hs, Bool.false_eq_true, if_false, upd]
    by_cases e : i = j
    · subst e
      refine ⟨?_, ?_, ?_, ?_⟩
      · rw [if_neg (by omega)]; exact a0
      · rw [if_pos rfl, if_pos (by omega)]; simp [b01]
      · rw [if_neg (by omega)]; exact a2
      · rw [if_neg (by omega)]; exact a3
    · have e' : ¬ j = i := fun h => e h.symm
      simp only [if_neg e']
      refine ⟨?_, ?_, ?_, ?_⟩
      · rw [if_neg (by omega)]; exact a0
      · rw [if_neg (by omega)]; exact a1
      · rw [if_neg (by omega)]; exact a2
      · rw [if_neg (by omega)]; exact a3
  · by_cases e : j = i
    · subst e
      rw [heap_closed_same _ _ (by have := lt_of_heap (h3 j hj); simpa [World.setCell, World.drew] using this)]
      simp [opn, hs, upd]
    · rw [heap_closed_other _ _ _ (fun e' => e (h4 j i hj hi e'))]
      show (World.setCell _ _ _).heap[ch j]? = _
      rw [Below.heap_setCell _ _ _ _ (hne j hj), h3 j hj]
      simp [opn, hs, upd, e]
end

end Go.Proofs.Qxb6614780a
