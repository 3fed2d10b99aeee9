/-
  ZZnewReach, ZZnewLinking.
-/
import Derived.Test.Qxb6614780aBytes
import Derived.Conc.SmallLaws
import Derived.RegionTactic
namespace Go.Proofs.Qxb6614780a
open Go.RowKit

theorem newReach_any (line : Int) (be : ByteArray) (w : World) :
    Calls Try.prog 20 #[.int .i64 line, .string be] w fun e w' => e = .returned (.pointer (some ⟨w.heap.size, 0, none⟩)) ∧ w' = w.alloc (.cells #[.int .i64 line, .string be] 76) := by
  go_enter Try.func20, Try.ntmps20
  go_wp2
  go_ret
  exact ⟨rfl, rfl⟩

def gzc : Array Value := #[.chan none, .int .u32 0, .int .i64 0, .string ByteArray.empty]
def gz : Value := .agg gzc
theorem Try.info78 : (Try.prog.info? 78).map (fun i => (i.zero, i.size, i.bytes)) = some (some gz, 4, 40) := by kernel_rfl
theorem make_gates (n : Nat) (hn : n ≤ 65536) (w : World) : (Instr.makeSlice 65 (.int .i64 n) (.int .i64 n)).run Try.prog w = .ok (.slice (some ⟨w.heap.size, 0, none⟩) n n) (w.alloc (.cells (madeCells gzc (n * 4)) 78)) := by
  obtain ⟨i, hi, hzz⟩ := Option.map_eq_some_iff.1 Try.info78
  simp only [Prod.mk.injEq] at hzz
  obtain ⟨hz, hs, hb⟩ := hzz
  have := run_make (P := Try.prog) w 65 78 i gz Try.underlying65 hi hz .i64 .i64 n n (by omega) (Int.le_refl _) (by rw [hb]; omega) (by omega)
  rw [hs] at this
  exact this

theorem make_chan (w : World) : (Instr.makeChan 69 (.int .i64 0)).run Try.prog w = .ok (.chan (some w.heap.size)) (w.alloc (.chan 0 #[] false 0 0 false)) := by
  obtain ⟨i, hi, hb⟩ := Option.map_eq_some_iff.1 (show (Try.prog.info? 70).map (fun i => i.bytes) = some 0 by kernel_rfl)
  have := Conc.run_makeChan (P := Try.prog) (w := w) Try.underlying69 hi .i64 0 (by omega) (by rw [hb]; omega)
  simpa using this

/-- n gates, the first k with their channels. -/
structure GatesTo (w : World) (ub n k : Nat) (ch : Nat → Nat) : Prop where
  row : ∃ c : Array Value, w.heap[ub]? = some (.cells c 78 (0, 0)) ∧ c.size = n * 4 ∧ ∀ i, i < n → c[i * 4]? = some (.chan (if i < k then some (ch i) else none)) ∧ c[i * 4 + 1]? = some (.int .u32 0) ∧
    c[i * 4 + 2]? = some (.int .i64 0) ∧ c[i * 4 + 3]? = some (.string ByteArray.empty)
  chan : ∀ i, i < k → w.heap[ch i]? = some (.chan 0 #[] false 0 0 false)

theorem gates_made {w : World} {b n : Nat} {ch : Nat → Nat} (h : w.heap[b]? = some (.cells (madeCells gzc (n * 4)) 78)) : GatesTo w b n 0 ch := by
  refine ⟨⟨_, h, size_madeCells _ _, fun i hi => ?_⟩, fun i hi => by omega⟩
  have e0 : i * 4 % 4 = 0 := by omega
  have e1 : (i * 4 + 1) % 4 = 1 := by omega
  have e2 : (i * 4 + 2) % 4 = 2 := by omega
  have e3 : (i * 4 + 3) % 4 = 3 := by omega
  have l0 : i * 4 < n * 4 := by omega
  have l1 : i * 4 + 1 < n * 4 := by omega
  have l2 : i * 4 + 2 < n * 4 := by omega
  have l3 : i * 4 + 3 < n * 4 := by omega
  simp [madeCells, gzc, l1, l2, l3, e1, e2, e3, hi]

section
variable {w : World} {ub n k : Nat} {ch : Nat → Nat}
theorem GatesTo.cell (h : GatesTo w ub n k ch) (hk : k < n) : w.cell? ⟨ub, k * 4, none⟩ = some (.chan none) := by
  obtain ⟨c, hb, _, hc⟩ := h.row; simp [World.cell?, hb, (hc k hk).1]
theorem GatesTo.free (h : GatesTo w ub n k ch) (j : Nat) : w.frozen? ⟨ub, j, none⟩ = false := by
  obtain ⟨c, hb, _, _⟩ := h.row; simp [World.frozen?, hb]
theorem GatesTo.lt (h : GatesTo w ub n k ch) : ub < w.heap.size := by
  obtain ⟨c, hb, _, _⟩ := h.row; exact lt_of_heap hb
theorem GatesTo.of_blocks (h : GatesTo w ub n k ch) {w' : World} (h1 : w'.heap[ub]? = w.heap[ub]?) (h2 : ∀ i, i < k → w'.heap[ch i]? = w.heap[ch i]?) : GatesTo w' ub n k ch := by
  obtain ⟨⟨c, hb, hs, hc⟩, h3⟩ := h
  exact ⟨⟨c, h1.trans hb, hs, hc⟩, fun i hi => (h2 i hi).trans (h3 i hi)⟩
theorem GatesTo.ch_lt (h : GatesTo w ub n k ch) {i : Nat} (hi : i < k) : ch i < w.heap.size := lt_of_heap (h.chan i hi)
theorem GatesTo.alloc (h : GatesTo w ub n k ch) (o : Obj) : GatesTo (w.alloc o) ub n k ch :=
  h.of_blocks (Below.heap_alloc _ _ _ h.lt) fun _ hi => Below.heap_alloc _ _ _ (h.ch_lt hi)
theorem GatesTo.drew (h : GatesTo w ub n k ch) : GatesTo w.drew ub n k ch := h.of_blocks rfl fun _ _ => rfl
theorem GatesTo.ch_ne (h : GatesTo w ub n k ch) {i : Nat} (hi : i < k) {b t : Nat} {c : Array Value} {f : Nat × Nat} (hb : w.heap[b]? = some (.cells c t f)) : ch i ≠ b := by
  rintro rfl
  have := h.chan i hi
  rw [hb] at this; simp at this
theorem GatesTo.setCell (h : GatesTo w ub n k ch) {p : Addr} {t : Nat} {c : Array Value} {f : Nat × Nat} (hp : w.heap[p.block]? = some (.cells c t f)) (h1 : p.block ≠ ub) (v : Value) : GatesTo (w.setCell p v) ub n k ch :=
  h.of_blocks (Below.heap_setCell _ _ _ _ (Ne.symm h1)) fun _ hi => Below.heap_setCell _ _ _ _ (h.ch_ne hi hp)
/-- One gate more gets its channel. -/
theorem GatesTo.next (h : GatesTo w ub n k ch) (hk : k < n) (hch : w.heap[ch k]? = some (.chan 0 #[] false 0 0 false)) : GatesTo (w.setCell ⟨ub, k * 4, none⟩ (.chan (some (ch k)))) ub n (k + 1) ch := by
  obtain ⟨⟨c, hb, hsz, hc⟩, h3⟩ := h
  have hne : ∀ j, j < k + 1 → ch j ≠ ub := by
    rintro j hj rfl
    by_cases e : j = k
    · subst e; rw [hb] at hch; simp at hch
    · have := h3 j (by omega); rw [hb] at this; simp at this
  refine ⟨⟨_, heap_setCell_same hb _, by simpa using hsz, fun j hj => ?_⟩, fun j hj => ?_⟩
  · obtain ⟨a0, a1, a2, a3⟩ := hc j hj
    simp only [Array.getElem?_setIfInBounds]
    refine ⟨?_, by rw [if_neg (by omega)]; exact a1, by rw [if_neg (by omega)]; exact a2, by rw [if_neg (by omega)]; exact a3⟩
    by_cases e : k = j
    · subst e; rw [if_pos rfl, if_pos (by omega)]; simp
    · rw [if_neg (by omega), a0]
      have : (j < k + 1) ↔ j < k := by omega
      simp [this]
  · rw [Below.heap_setCell _ _ _ _ (hne j hj)]
    by_cases e : j = k
    · subst e; exact hch
    · exact h3 j (by omega)
/-- All have theirs. -/
theorem GatesTo.all (h : GatesTo w ub n n ch) (inj : ∀ i j, i < n → j < n → ch i = ch j → i = j) : Gates w ub n ch ⟨fun _ => false, fun _ => 0, fun _ => ByteArray.empty⟩ := by
  obtain ⟨⟨c, hb, hsz, hc⟩, h3⟩ := h
  refine ⟨⟨c, hb, hsz, fun i hi => ?_⟩, h3, inj⟩
  obtain ⟨a0, a1, a2, a3⟩ := hc i hi
  exact ⟨by simpa [hi] using a0, a1, a2, a3⟩
end

/-- The linking as it is being made: ke ended gates, ku undone gates have their channels. -/
structure Lnk (w0 w : World) (eb ub n ke ku : Nat) : Prop where
  ne : eb ≠ ub
  eb_ge : w0.heap.size ≤ eb
  ub_ge : w0.heap.size ≤ ub
  size : w.heap.size = w0.heap.size + 3 + ke + ku
  lnk : IsLinking w (w0.heap.size + 2) eb ub n
  ended : GatesTo w eb n ke (fun i => w0.heap.size + 3 + 2 * i)
  undone : GatesTo w ub n ku (fun i => w0.heap.size + 4 + 2 * i)
  below : Below w0.heap.size w0 w

theorem IsLinking.of_block {w w' : World} {lb eb ub n : Nat} (h : IsLinking w lb eb ub n) (e : w'.heap[lb]? = w.heap[lb]?) : IsLinking w' lb eb ub n := e.trans h
theorem IsLinking.lt {w : World} {lb eb ub n : Nat} (h : IsLinking w lb eb ub n) : lb < w.heap.size := lt_of_heap h
theorem IsLinking.ne_gates {w : World} {lb eb ub n b k m : Nat} {ch : Nat → Nat} (h : IsLinking w lb eb ub n) (g : GatesTo w b m k ch) : lb ≠ b := by
  rintro rfl
  obtain ⟨c, hb, _, _⟩ := g.row
  unfold IsLinking at h
  rw [h] at hb; simp at hb

theorem heap_alloc_at (w : World) (o : Obj) : (w.alloc o).heap[w.heap.size]? = some o := heap_alloc_new w o

theorem Lnk.start (w : World) (n : Nat) : Lnk w (((w.alloc (.cells (madeCells gzc (n * 4)) 78)).alloc (.cells (madeCells gzc (n * 4)) 78)).alloc
    (.cells #[.pointer none, .slice (some ⟨w.heap.size, 0, none⟩) n n, .slice (some ⟨w.heap.size + 1, 0, none⟩) n n] 68)).drew w.heap.size (w.heap.size + 1) n 0 0 := by
  have s1 : (w.alloc (.cells (madeCells gzc (n * 4)) 78)).heap.size = w.heap.size + 1 := by simp
  have s2 : ((w.alloc (.cells (madeCells gzc (n * 4)) 78)).alloc (.cells (madeCells gzc (n * 4)) 78)).heap.size = w.heap.size + 2 := by simp
  refine ⟨by omega, by omega, by omega, by simp, ?_, gates_made ?_, gates_made ?_, ?_⟩
  · show (World.alloc _ _).heap[w.heap.size + 2]? = _
    rw [← s2, heap_alloc_at]
  · show (World.alloc _ _).heap[w.heap.size]? = _
    rw [Below.heap_alloc _ _ _ (by omega), Below.heap_alloc _ _ _ (by omega), heap_alloc_at]
  · show (World.alloc _ _).heap[w.heap.size + 1]? = _
    rw [Below.heap_alloc _ _ _ (by omega), ← s1, heap_alloc_at]
  · exact (((((Below.refl _ _).alloc (Nat.le_refl _) _).alloc (by omega) _).alloc (by omega) _).drew)

theorem Lnk.start' (w : World) (n : Nat) : Lnk w (((w.alloc (.cells (madeCells gzc (n * 4)) 78)).alloc (.cells (madeCells gzc (n * 4)) 78)).alloc
    (.cells #[.pointer none, .slice (some ⟨w.heap.size + 1, 0, none⟩) n n, .slice (some ⟨w.heap.size, 0, none⟩) n n] 68)).drew (w.heap.size + 1) w.heap.size n 0 0 := by
  have s1 : (w.alloc (.cells (madeCells gzc (n * 4)) 78)).heap.size = w.heap.size + 1 := by simp
  have s2 : ((w.alloc (.cells (madeCells gzc (n * 4)) 78)).alloc (.cells (madeCells gzc (n * 4)) 78)).heap.size = w.heap.size + 2 := by simp
  refine ⟨by omega, by omega, by omega, by simp, ?_, gates_made ?_, gates_made ?_, ?_⟩
  · show (World.alloc _ _).heap[w.heap.size + 2]? = _
    rw [← s2, heap_alloc_at]
  · show (World.alloc _ _).heap[w.heap.size + 1]? = _
    rw [Below.heap_alloc _ _ _ (by omega), ← s1, heap_alloc_at]
  · show (World.alloc _ _).heap[w.heap.size]? = _
    rw [Below.heap_alloc _ _ _ (by omega), Below.heap_alloc _ _ _ (by omega), heap_alloc_at]
  · exact (((((Below.refl _ _).alloc (Nat.le_refl _) _).alloc (by omega) _).alloc (by omega) _).drew)

theorem Lnk.stepE {w0 w : World} {eb ub n k : Nat} (h : Lnk w0 w eb ub n k k) (hk : k < n) :
    Lnk w0 ((w.alloc (.chan 0 #[] false 0 0 false)).setCell ⟨eb, k * 4, none⟩ (.chan (some w.heap.size))).drew eb ub n (k + 1) k := by
  have hsz := h.size
  have eW : w.heap.size = w0.heap.size + 3 + 2 * k := by omega
  obtain ⟨ce, hce, _, _⟩ := (h.ended.alloc (.chan 0 #[] false 0 0 false)).row
  refine ⟨h.ne, h.eb_ge, h.ub_ge, by simp [World.setCell, World.drew] at hsz ⊢; omega, ?_, ?_, ?_, ?_⟩
  · refine h.lnk.of_block ?_
    show (World.setCell _ _ _).heap[_]? = _
    rw [Below.heap_setCell _ _ _ _ (h.lnk.ne_gates h.ended), Below.heap_alloc _ _ _ h.lnk.lt]
  · have := (h.ended.alloc (.chan 0 #[] false 0 0 false)).next hk (by show (World.alloc _ _).heap[w0.heap.size + 3 + 2 * k]? = _; rw [← eW]; exact heap_alloc_at _ _)
    rw [← eW] at this
    exact this.drew
  · exact ((h.undone.alloc _).setCell (p := ⟨eb, k * 4, none⟩) hce h.ne _).drew
  · exact ((h.below.alloc (by omega) _).setCell h.eb_ge _).drew

theorem Lnk.stepU {w0 w : World} {eb ub n k : Nat} (h : Lnk w0 w eb ub n (k + 1) k) (hk : k < n) :
    Lnk w0 ((w.alloc (.chan 0 #[] false 0 0 false)).setCell ⟨ub, k * 4, none⟩ (.chan (some w.heap.size))).drew eb ub n (k + 1) (k + 1) := by
  have hsz := h.size
  have eW : w.heap.size = w0.heap.size + 4 + 2 * k := by omega
  obtain ⟨ce, hce, _, _⟩ := (h.undone.alloc (.chan 0 #[] false 0 0 false)).row
  refine ⟨h.ne, h.eb_ge, h.ub_ge, by simp [World.setCell, World.drew] at hsz ⊢; omega, ?_, ?_, ?_, ?_⟩
  · refine h.lnk.of_block ?_
    show (World.setCell _ _ _).heap[_]? = _
    rw [Below.heap_setCell _ _ _ _ (h.lnk.ne_gates h.undone), Below.heap_alloc _ _ _ h.lnk.lt]
  · exact ((h.ended.alloc _).setCell (p := ⟨ub, k * 4, none⟩) hce (Ne.symm h.ne) _).drew
  · have := (h.undone.alloc (.chan 0 #[] false 0 0 false)).next hk (by show (World.alloc _ _).heap[w0.heap.size + 4 + 2 * k]? = _; rw [← eW]; exact heap_alloc_at _ _)
    rw [← eW] at this
    exact this.drew
  · exact ((h.below.alloc (by omega) _).setCell h.ub_ge _).drew

def initGS : GS := ⟨fun _ => false, fun _ => 0, fun _ => ByteArray.empty⟩

def LinkPost (n : Nat) (w : World) (e : Ending) (w' : World) : Prop := ∃ eb ub, e = .returned (.pointer (some ⟨w.heap.size + 2, 0, none⟩)) ∧ Lnk w w' eb ub n n n

set_option maxHeartbeats 800000 in
theorem newLinking_any (n : Nat) (hn : n ≤ 65536) (w : World) :
    Calls Try.prog 18 #[.int .i64 n] w (LinkPost n w) := by
  have hmk := make_gates n hn
  have hch := make_chan
  go_enter Try.func18, Try.ntmps18
  go_wp2
  go_region
  all_goals
    go_wp2
    go_loopw [4] (fun i wr => ∃ (k eb ub : Nat), k ≤ n ∧ i = .int .i64 k ∧ Lnk w wr eb ub n k k) (fun i _ => n - (intOf i).toNat)
    case atStart => first | exact ⟨0, _, _, Nat.zero_le _, rfl, Lnk.start w n⟩ | exact ⟨0, _, _, Nat.zero_le _, rfl, Lnk.start' w n⟩
    case round =>
    obtain ⟨k, eb, ub, hk, rfl, hL⟩ := hrel
    by_cases hlt : k < n
    · have i1 : (0 : Int) ≤ (k : Int) := by omega
      have i2 : (k : Int) < (n : Int) := by omega
      have a1 : ∀ o, (wr.alloc o).cell? ⟨w.heap.size + 2, 1, none⟩ = some (.slice (some ⟨eb, 0, none⟩) n n) := fun o => by rw [World.cell?_alloc_past _ _ _ (lt_of_heap hL.lnk)]; exact hL.lnk.c1
      have a1' := hL.lnk.c1
      have a2 : ∀ o, (wr.alloc o).cell? ⟨eb, k * 4, none⟩ = some (.chan none) := fun o => (hL.ended.alloc o).cell hlt
      have a3 : ∀ o j, (wr.alloc o).frozen? ⟨eb, j, none⟩ = false := fun o => (hL.ended.alloc o).free
      have h5 := hL.stepE hlt
      clear hL
      go_wp2
      go_region
      go_wp2
      clear a1 a1' a2 a3
      generalize ((wr.alloc (Obj.chan 0 #[] false 0 0 false)).setCell ⟨eb, k * 4, none⟩ (Value.chan (some wr.heap.size))).drew = w1 at h5 ⊢
      have a1 : ∀ o, (w1.alloc o).cell? ⟨w.heap.size + 2, 2, none⟩ = some (.slice (some ⟨ub, 0, none⟩) n n) := fun o => by rw [World.cell?_alloc_past _ _ _ (lt_of_heap h5.lnk)]; exact h5.lnk.c2
      have a1' := h5.lnk.c2
      have a2 : ∀ o, (w1.alloc o).cell? ⟨ub, k * 4, none⟩ = some (.chan none) := fun o => (h5.undone.alloc o).cell hlt
      have a3 : ∀ o j, (w1.alloc o).frozen? ⟨ub, j, none⟩ = false := fun o => (h5.undone.alloc o).free
      have h6 := h5.stepU hlt
      clear h5
      go_region
      go_wp2
      go_roundw
      case rel => exact ⟨k + 1, _, _, by omega, by go_num, h6⟩
      case measure => simp [intOf]; omega
    · have : k = n := by omega
      subst this
      go_wp2
      go_ret
      exact ⟨eb, ub, rfl, hL⟩

end Go.Proofs.Qxb6614780a
