/-
  A row of len elements of m cells each, k of them written.
-/
import Derived.Test.Qxb6615936aDoorRows
import Derived.Deep.MidRow
import Derived.Laws.IdiomCopy
import Derived.Laws.MakeOwn
import Derived.WalkKit
import Derived.Below
namespace Go.Proofs.Qxb6615936aDoor
open Go.RowKit

theorem size_setCells (b : Nat) : ∀ (vs : List Value) (o : Nat) (w : World), (w.setCells b o vs).heap.size = w.heap.size
  | [], _, _ => rfl
  | v :: r, o, w => by
    show ((w.setCell ⟨b, o, none⟩ v).setCells b (o + 1) r).heap.size = _
    rw [size_setCells b r]; simp [World.setCell]
theorem heap_setCells_other {b k : Nat} (h : k ≠ b) : ∀ (vs : List Value) (o : Nat) (w : World), (w.setCells b o vs).heap[k]? = w.heap[k]?
  | [], _, _ => rfl
  | v :: r, o, w => by
    show ((w.setCell ⟨b, o, none⟩ v).setCells b (o + 1) r).heap[k]? = _
    rw [heap_setCells_other h r, heap_setCell_other _ _ _ _ h]
theorem below_setCells' {B : Nat} {a : World} {b : Nat} (hb : B ≤ b) : ∀ (vs : List Value) (o : Nat) {w : World}, Below B a w → Below B a (w.setCells b o vs)
  | [], _, _, h => h
  | v :: r, o, w, h => below_setCells' hb r (o + 1) (w := w.setCell ⟨b, o, none⟩ v) ⟨h.os, h.tape, h.output, by simpa [World.setCell] using h.size, fun k hk => (heap_setCell_other w ⟨b, o, none⟩ k v (show k ≠ b by omega)).trans (h.block k hk)⟩

theorem range_of_block {w w' : World} {b o : Nat} {cs : List Value} (h : w'.heap[b]? = w.heap[b]?) (hr : w.rangeAt b o cs) : w'.rangeAt b o cs := fun j v hv => (World.cell?_of_block (a := ⟨b, o + j, none⟩) h).trans (hr j v hv)
theorem there_of_block {w w' : World} {b o n : Nat} (h : w'.heap[b]? = w.heap[b]?) (hr : w.there b o n) : w'.there b o n := fun j hj => by
  rw [World.cell?_of_block (a := ⟨b, o + j, none⟩) h, World.frozen?_of_block (a := ⟨b, o + j, none⟩) h]
  exact hr j hj
theorem there_cells {w : World} {b t n : Nat} {c : Array Value} (hb : w.heap[b]? = some (.cells c t (0, 0))) (hn : c.size = n) : w.there b 0 n := by
  intro j hj
  rw [Nat.zero_add]
  have : j < c.size := by omega
  simp [World.cell?, World.frozen?, hb, this]

structure RowsTo (m : Nat) (F : Nat → Array Value) (len ib : Nat) (wr : World) (k : Nat) : Prop where
  cell : ∀ j, j < k → wr.rangeAt ib (j * m) (F j).toList
  there : wr.there ib 0 (len * m)

section
variable {m : Nat} {F : Nat → Array Value} {len ib : Nat} {wr : World} {k : Nat}
theorem RowsTo.of_block {wr' : World} (h : RowsTo m F len ib wr k) (hb : wr'.heap[ib]? = wr.heap[ib]?) : RowsTo m F len ib wr' k :=
  ⟨fun j hj => range_of_block hb (h.cell j hj), there_of_block hb h.there⟩
theorem RowsTo.start {c : Array Value} {t : Nat} (hb : wr.heap[ib]? = some (.cells c t (0, 0))) (hn : c.size = len * m) : RowsTo m F len ib wr 0 :=
  ⟨fun j hj => by omega, there_cells hb hn⟩
theorem RowsTo.room (h : RowsTo m F len ib wr k) (hk : k < len) : wr.there ib (k * m) m := by
  intro j hj
  have h1 : k * m + j < len * m := by
    have : (k + 1) * m ≤ len * m := Nat.mul_le_mul_right m hk
    rw [Nat.add_mul, Nat.one_mul] at this
    omega
  have := h.there (k * m + j) h1
  rwa [Nat.zero_add] at this
theorem RowsTo.next (h : RowsTo m F len ib wr k) (hk : k < len) (hs : ∀ j, (F j).size = m) : RowsTo m F len ib (wr.setCells ib (k * m) (F k).toList) (k + 1) := by
  refine ⟨fun j hj i v hv => ?_, World.there_setCells h.there _ _ _⟩
  have hl : (F k).toList.length = m := by simpa using hs k
  have hi : i < m := by
    have := (List.getElem?_eq_some_iff.1 hv).1
    rwa [Array.length_toList, hs] at this
  by_cases e : j = k
  · subst e
    have hr := h.room hk
    have hlt : i < (F j).toList.length := by omega
    rw [World.cell?_setCells_in ib (F j).toList (j * m) wr (fun i hi => (hr i (by omega)).1) i hlt]
    rw [List.getElem?_eq_getElem hlt] at hv
    exact hv
  · have hjk : j < k := by omega
    rw [World.cell?_setCells_out ib _ _ _ _ (fun _ _ => .inl (by
      show j * m + i < k * m
      have : (j + 1) * m ≤ k * m := Nat.mul_le_mul_right m hjk
      rw [Nat.add_mul, Nat.one_mul] at this
      omega))]
    exact h.cell j hjk i v hv
end
end Go.Proofs.Qxb6615936aDoor
