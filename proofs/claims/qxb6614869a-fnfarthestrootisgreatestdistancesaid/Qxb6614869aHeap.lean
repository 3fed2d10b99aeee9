/-
  zzHeap: the rows that came in, copied one after the other into a row of the call's own.
-/
import Derived.Test.Qxb6614869aLess
namespace Go.Proofs.Qxb6614869a
open Go.RowKit

/-- What came in: len elements of 64 bytes, byte c holding 'S c'. -/
structure Src (w : World) (ao : Option Addr) (hb off len : Nat) (S : Nat → Int) : Prop where
  addr : 0 < len → ao = some ⟨hb, off, none⟩
  lt : 0 < len → hb < w.heap.size
  cell : ∀ c, c < len * 64 → w.cell? ⟨hb, off + c, none⟩ = some (.int .u8 (S c))
  low : ∀ c, c < len * 64 → 0 ≤ S c
  high : ∀ c, c < len * 64 → S c ≤ 255

/-- The 32 bytes from o on. -/
def rowAt (S : Nat → Int) (o : Nat) : Array Value := ((List.range 32).map fun k => Value.int .u8 (S (o + k))).toArray
theorem size_rowAt (S : Nat → Int) (o : Nat) : (rowAt S o).size = 32 := by simp [rowAt]
theorem Src.row {w : World} {ao : Option Addr} {hb off len : Nat} {S : Nat → Int} (h : Src w ao hb off len S) {o : Nat} (ho : o + 32 ≤ len * 64) : Row (rowAt S o) (fun k => S (o + k)) :=
  ⟨size_rowAt S o, fun i hi => by simp [rowAt, hi], fun i hi => h.low _ (by omega), fun i hi => h.high _ (by omega)⟩
theorem Src.range {w w' : World} {ao : Option Addr} {hb off len : Nat} {S : Nat → Int} (h : Src w ao hb off len S) {o : Nat} (ho : o + 32 ≤ len * 64) (hbel : Below w.heap.size w w') : w'.rangeAt hb (off + o) (rowAt S o).toList := by
  intro j v hv
  simp only [rowAt, List.getElem?_map, Option.map_eq_some_iff] at hv
  obtain ⟨k, hk, rfl⟩ := hv
  rw [List.getElem?_eq_some_iff] at hk
  obtain ⟨hlt, hk⟩ := hk
  simp at hlt hk
  subst hk
  rw [hbel.cell (p := ⟨hb, off + o + j, none⟩) (h.lt (by omega)), Nat.add_assoc]
  exact h.cell _ (by omega)

theorem rows_one (S : Nat → Int) (o p : Nat) : ((rowAt S o ++ rowAt S p).all fun x => x.oneCell') = true := by
  rw [Array.all_eq_true_iff_forall_mem]
  intro x hx
  rw [Array.mem_append] at hx
  rcases hx with hx | hx <;> (simp [rowAt] at hx; obtain ⟨k, _, rfl⟩ := hx; rfl)

theorem Try.size31 (w : World) : (sizeOf 31).run Try.prog w = .ok 64 w := by kernel_rfl
theorem index22 {ao : Option Addr} {b off len k : Nat} (hao : ao = some ⟨b, off, none⟩) (hk : k < len) (cap : Nat) (w : World) :
    (Instr.indexAt 22 (.slice ao len cap) (.int .i64 k)).run Try.prog w = .ok (.pointer (some ⟨b, off + k * 64, none⟩)) w := by
  subst hao
  rw [run_indexAt_slice (P := Try.prog) w 22 ⟨b, off, none⟩ len cap .i64 k (by kernel_rfl), if_pos ⟨by omega, by omega⟩]
  have e : Try.prog.elem 22 = 31 := by kernel_rfl
  rw [e, Try.size31]
  simp only [Result.andThen, Int.toNat_natCast]
  have : (⟨b, off, none⟩ : Addr).add (k * 64) = ⟨b, off + k * 64, none⟩ := by unfold Addr.add; split <;> simp_all
  rw [this]

theorem Try.info35 : (Try.prog.info? 35).map (fun i => (i.zero, i.size, i.bytes)) = some (some (.agg z64), 64, 64) := by kernel_rfl
theorem make_heap (n : Nat) (hn : n ≤ 65536) (w : World) : (Instr.makeSlice 25 (.int .i64 n) (.int .i64 n)).run Try.prog w = .ok (.slice (some ⟨w.heap.size, 0, none⟩) n n) (w.alloc (.cells (madeCells z64 (n * 64)) 35)) := by
  obtain ⟨i, hi, hzz⟩ := Option.map_eq_some_iff.1 Try.info35
  simp only [Prod.mk.injEq] at hzz
  obtain ⟨hz, hs, hb⟩ := hzz
  have := run_make (P := Try.prog) w 25 35 i (.agg z64) Try.underlying25 hi hz .i64 .i64 n n (by omega) (Int.le_refl _) (by rw [hb]; omega) (by omega)
  rw [hs] at this
  exact this

theorem rows_get (S : Nat → Int) (o j : Nat) (hj : j < 64) : (rowAt S o ++ rowAt S (o + 32)).toList[j]? = some (.int .u8 (S (o + j))) := by
  rw [Array.toList_append]
  by_cases h : j < 32
  · rw [List.getElem?_append_left (by simp [size_rowAt, h])]
    simp [rowAt, h]
  · rw [List.getElem?_append_right (by simp [size_rowAt]; omega)]
    have e : o + 32 + (j - 32) = o + j := by omega
    have h' : j - 32 < 32 := by omega
    simp [rowAt, h', e]

/-- The own row, k elements copied. -/
structure HeapTo (S : Nat → Int) (len : Nat) (w wr : World) (k : Nat) : Prop where
  cell : ∀ q, q < k * 64 → wr.cell? ⟨w.heap.size, q, none⟩ = some (.int .u8 (S q))
  there : wr.there w.heap.size 0 (len * 64)
  lt : w.heap.size < wr.heap.size
  below : Below w.heap.size w wr

section
variable {S : Nat → Int} {len k : Nat} {w wr wr' : World}
theorem HeapTo.start (w : World) (len : Nat) : HeapTo S len w (w.alloc (.cells (madeCells z64 (len * 64)) 35)) 0 :=
  ⟨fun q hq => by omega, there_block (heap_alloc_at _ _) (size_madeCells _ _), by simp, (Below.refl _ _).alloc (Nat.le_refl _) _⟩
theorem HeapTo.later (h : HeapTo S len w wr k) (hb : Below wr.heap.size wr wr') : HeapTo S len w wr' k := by
  refine ⟨fun q hq => ?_, there_below hb h.lt h.there, Nat.lt_of_lt_of_le h.lt hb.size, h.below.trans (hb.mono (Nat.le_of_lt h.lt))⟩
  rw [hb.cell (p := ⟨w.heap.size, q, none⟩) h.lt]; exact h.cell q hq
theorem HeapTo.drew (h : HeapTo S len w wr k) : HeapTo S len w wr.drew k := h.later (Below.refl _ _).drew
theorem HeapTo.room (h : HeapTo S len w wr k) (hk : k < len) : wr.there w.heap.size (k * 64) 64 := by
  intro j hj
  have := h.there (k * 64 + j) (by omega)
  rwa [Nat.zero_add] at this
theorem size_setCells (b : Nat) : ∀ (vs : List Value) (o : Nat) (w : World), (w.setCells b o vs).heap.size = w.heap.size
  | [], _, _ => rfl
  | v :: r, o, w => by
    show ((w.setCell ⟨b, o, none⟩ v).setCells b (o + 1) r).heap.size = _
    rw [size_setCells b r]; simp [World.setCell]
theorem HeapTo.stored (h : HeapTo S len w wr k) (vs : List Value) : HeapTo S len w (wr.setCells w.heap.size (k * 64) vs) k := by
  refine ⟨fun q hq => ?_, World.there_setCells h.there _ _ _, by rw [size_setCells]; exact h.lt, below_setCells (Nat.le_refl _) _ _ h.below⟩
  rw [World.cell?_setCells_out _ _ _ _ _ (fun _ _ => .inl hq)]
  exact h.cell q hq
theorem HeapTo.next (h : HeapTo S len w wr k) (hk : k < len) : HeapTo S len w (wr.setCells w.heap.size (k * 64) (rowAt S (k * 64) ++ rowAt S (k * 64 + 32)).toList) (k + 1) := by
  have hl : (rowAt S (k * 64) ++ rowAt S (k * 64 + 32)).toList.length = 64 := by simp [size_rowAt]
  have h0 := h.stored (rowAt S (k * 64) ++ rowAt S (k * 64 + 32)).toList
  refine ⟨fun q hq => ?_, h0.there, h0.lt, h0.below⟩
  by_cases hq' : q < k * 64
  · exact h0.cell q hq'
  · obtain ⟨j, rfl⟩ : ∃ j, q = k * 64 + j := ⟨q - k * 64, by omega⟩
    have hr := h.room hk
    have hlt : j < (rowAt S (k * 64) ++ rowAt S (k * 64 + 32)).toList.length := by omega
    have := World.cell?_setCells_in w.heap.size (rowAt S (k * 64) ++ rowAt S (k * 64 + 32)).toList (k * 64) wr (fun i hi => (hr i (by omega)).1) j hlt
    rw [this]
    have e := rows_get S (k * 64) j (by omega)
    rw [List.getElem?_eq_getElem hlt] at e
    exact e
end

end Go.Proofs.Qxb6614869a
