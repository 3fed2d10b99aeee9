/-
  ZZdropGroups: what it builds ahead of the drop, and the whole call.
-/
import Derived.Test.Qxb6614780aDrop
import Derived.Test.Qxb6614780aMark
namespace Go.Proofs.Qxb6614780a
open Go.RowKit

def pz : Array Value := #[.nilIface, .int .i64 0]

/-- The block of stack k's row, counted from H: the group's row is H. -/
def stAt (H : Nat) (L : Nat → Nat) : Nat → Nat
  | 0 => H + 1
  | k + 1 => stAt H L k + 1 + L k

theorem stAt_lt (H : Nat) (L : Nat → Nat) {i k : Nat} (h : i < k) : stAt H L i + 1 + L i ≤ stAt H L k := by
  induction k with
  | zero => omega
  | succ k ih =>
    by_cases e : i = k
    · subst e; exact Nat.le_refl _
    · have := ih (by omega); simp only [stAt]; omega
theorem stAt_ge (H : Nat) (L : Nat → Nat) (k : Nat) : H + 1 ≤ stAt H L k := by
  induction k with
  | zero => exact Nat.le_refl _
  | succ k ih => simp only [stAt]; omega

def mkLay (H len : Nat) (L : Nat → Nat) (Z : Nat → Nat → Int) : Lay where
  N := len
  gb := H
  sb := fun i => match i with | 0 => stAt H L len | i + 1 => stAt H L i
  m := fun i => match i with | 0 => 1 | i + 1 => L i
  ub := fun i j => stAt H L i + 1 + j
  lk := fun i j => (Z i j).toNat

/-- k stacks stand whole. -/
structure Bld (H len : Nat) (L : Nat → Nat) (Z : Nat → Nat → Int) (w0 w : World) (k : Nat) : Prop where
  grp : ∃ c : Array Value, w.heap[H]? = some (.cells c 82 (0, 0)) ∧ c.size = len ∧ ∀ i, i < k → c[i]? = some (.slice (some ⟨stAt H L i, 0, none⟩) (L i) (L i))
  stk : ∀ i, i < k → ∃ c : Array Value, w.heap[stAt H L i]? = some (.cells c 89 (0, 0)) ∧ ∀ j, j < L i → c[j * 2]? = some (.iface 83 (.pointer (some ⟨stAt H L i + 1 + j, 0, none⟩))) ∧ c[j * 2 + 1]? = some (.int .i64 0)
  und : ∀ i, i < k → ∀ j, j < L i → w.heap[stAt H L i + 1 + j]? = some (.cells #[.nilIface, .int .i64 (Z i j)] 87 (0, 0))
  old : w0.heap.size = H
  kept : Kept (fun _ => False) w0 w

/-- Stack k, of which q elements stand. -/
structure Cur (H : Nat) (L : Nat → Nat) (Z : Nat → Nat → Int) (w : World) (k q : Nat) : Prop where
  row : ∃ c : Array Value, w.heap[stAt H L k]? = some (.cells c 89 (0, 0)) ∧ c.size = L k * 2 ∧ (∀ j, j < q → c[j * 2]? = some (.iface 83 (.pointer (some ⟨stAt H L k + 1 + j, 0, none⟩))) ∧ c[j * 2 + 1]? = some (.int .i64 0)) ∧
    ∀ j, q ≤ j → j < L k → c[j * 2]? = some .nilIface ∧ c[j * 2 + 1]? = some (.int .i64 0)
  und : ∀ j, j < q → w.heap[stAt H L k + 1 + j]? = some (.cells #[.nilIface, .int .i64 (Z k j)] 87 (0, 0))

section
variable {H len k q : Nat} {L : Nat → Nat} {Z : Nat → Nat → Int} {w0 w w' : World}
theorem Bld.step (h : Bld H len L Z w0 w k) (e : ∀ b o, b < w.heap.size → b < stAt H L k → w.heap[b]? = some o → w'.heap[b]? = some o) (hk : Kept (fun _ => False) w0 w') : Bld H len L Z w0 w' k := by
  obtain ⟨⟨c, hc, hs, hg⟩, h2, h3, h4, h5⟩ := h
  have hH := stAt_ge H L k
  refine ⟨⟨c, e _ _ (lt_of_heap hc) (by omega) hc, hs, hg⟩, fun i hi => ?_, fun i hi j hj => ?_, h4, hk⟩
  · obtain ⟨c', hc', hs'⟩ := h2 i hi
    have := stAt_lt H L hi
    exact ⟨c', e _ _ (lt_of_heap hc') (by omega) hc', hs'⟩
  · have := stAt_lt H L hi
    exact e _ _ (lt_of_heap (h3 i hi j hj)) (by omega) (h3 i hi j hj)
theorem Bld.alloc (h : Bld H len L Z w0 w k) (o : Obj) : Bld H len L Z w0 (w.alloc o) k :=
  h.step (fun _ _ hb _ hh => (Below.heap_alloc _ _ _ hb).trans hh) (h.kept.alloc o)
theorem Bld.setCell (h : Bld H len L Z w0 w k) {p : Addr} (hp : stAt H L k ≤ p.block) (v : Value) : Bld H len L Z w0 (w.setCell p v) k :=
  h.step (fun b _ _ hb hh => (Below.heap_setCell _ _ _ _ (by omega)).trans hh) (h.kept.setCell (.inr (by have := stAt_ge H L k; have := h.old; omega)) v)

theorem Cur.alloc (h : Cur H L Z w k q) (o : Obj) : Cur H L Z (w.alloc o) k q := by
  obtain ⟨⟨c, hc, r⟩, h2⟩ := h
  exact ⟨⟨c, (Below.heap_alloc _ _ _ (lt_of_heap hc)).trans hc, r⟩, fun j hj => (Below.heap_alloc _ _ _ (lt_of_heap (h2 j hj))).trans (h2 j hj)⟩
theorem Cur.cell (h : Cur H L Z w k q) (hq : q < L k) : w.cell? ⟨stAt H L k, q * 2, none⟩ = some .nilIface := by
  obtain ⟨c, hc, _, _, r⟩ := h.row; simp [World.cell?, hc, (r q (Nat.le_refl _) hq).1]
theorem Cur.cell1 (h : Cur H L Z w k q) (hq : q < L k) : w.cell? ⟨stAt H L k, q * 2 + 1, none⟩ = some (.int .i64 0) := by
  obtain ⟨c, hc, _, _, r⟩ := h.row; simp [World.cell?, hc, (r q (Nat.le_refl _) hq).2]
theorem Cur.free (h : Cur H L Z w k q) (j : Nat) : w.frozen? ⟨stAt H L k, j, none⟩ = false := by
  obtain ⟨c, hc, _⟩ := h.row; simp [World.frozen?, hc]

/-- A new stack's row. -/
theorem Cur.start (hs : w.heap.size = stAt H L k) : Cur H L Z (w.alloc (.cells (madeCells pz (L k * 2)) 89)) k 0 := by
  refine ⟨⟨_, by rw [← hs]; exact heap_alloc_at _ _, size_madeCells _ _, fun j hj => by omega, fun j _ hj => ?_⟩, fun j hj => by omega⟩
  have l1 : j * 2 + 1 < L k * 2 := by omega
  have e1 : (j * 2 + 1) % 2 = 1 := by omega
  simp [madeCells, pz, l1, e1, hj]

/-- One element more. -/
theorem Cur.next (h : Cur H L Z w k q) (hq : q < L k) (hs : w.heap.size = stAt H L k + 1 + q) (z : Int) (hz : z = Z k q) :
    Cur H L Z (((w.alloc (.cells #[.nilIface, .int .i64 z] 87)).setCell ⟨stAt H L k, q * 2, none⟩ (.iface 83 (.pointer (some ⟨w.heap.size, 0, none⟩)))).setCell ⟨stAt H L k, q * 2 + 1, none⟩ (.int .i64 0)) k (q + 1) := by
  subst hz
  have hn : (w.alloc (.cells #[.nilIface, .int .i64 (Z k q)] 87)).heap[stAt H L k + 1 + q]? = some (.cells #[.nilIface, .int .i64 (Z k q)] 87 (0, 0)) := by rw [← hs]; exact heap_alloc_at _ _
  obtain ⟨⟨c, hc, hsz, r1, r2⟩, h2⟩ := h.alloc (.cells #[.nilIface, .int .i64 (Z k q)] 87)
  refine ⟨⟨_, heap_setCell_same (heap_setCell_same hc _) _, by simpa using hsz, fun j hj => ?_, fun j hj hj' => ?_⟩, fun j hj => ?_⟩
  · simp only [Array.getElem?_setIfInBounds, Array.size_setIfInBounds]
    by_cases e : j = q
    · subst e
      refine ⟨?_, ?_⟩
      · rw [if_neg (by omega), if_pos rfl, if_pos (by omega), hs]
      · rw [if_pos rfl, if_pos (by omega)]
    · refine ⟨?_, ?_⟩
      · rw [if_neg (by omega), if_neg (by omega)]; exact (r1 j (by omega)).1
      · rw [if_neg (by omega), if_neg (by omega)]; exact (r1 j (by omega)).2
  · simp only [Array.getElem?_setIfInBounds]
    refine ⟨?_, ?_⟩
    · rw [if_neg (by omega), if_neg (by omega)]; exact (r2 j (by omega) hj').1
    · rw [if_neg (by omega), if_neg (by omega)]; exact (r2 j (by omega) hj').2
  · rw [Below.heap_setCell _ _ _ _ (by show stAt H L k + 1 + j ≠ stAt H L k; omega), Below.heap_setCell _ _ _ _ (by show stAt H L k + 1 + j ≠ stAt H L k; omega)]
    by_cases e : j = q
    · subst e; exact hn
    · exact h2 j (by omega)

/-- The stack stands whole and is laid into the group. -/
theorem Bld.next (h : Bld H len L Z w0 w k) (hc : Cur H L Z w k (L k)) (hk : k < len) :
    Bld H len L Z w0 (w.setCell ⟨H, k, none⟩ (.slice (some ⟨stAt H L k, 0, none⟩) (L k) (L k))) (k + 1) := by
  have hH : ∀ i, stAt H L i ≠ H := fun i => by have := stAt_ge H L i; omega
  have hH' : ∀ i j, stAt H L i + 1 + j ≠ H := fun i j => by have := stAt_ge H L i; omega
  obtain ⟨⟨c, hcc, hs, hg⟩, h2, h3, h4, h5⟩ := h
  refine ⟨⟨_, heap_setCell_same hcc _, by simpa using hs, fun i hi => ?_⟩, fun i hi => ?_, fun i hi j hj => ?_, h4, h5.setCell (.inr (by show w0.heap.size ≤ H; omega)) _⟩
  · rw [Array.getElem?_setIfInBounds]
    by_cases e : k = i
    · subst e; rw [if_pos rfl, if_pos (by omega)]
    · rw [if_neg e]; exact hg i (by omega)
  · by_cases e : i = k
    · subst e
      obtain ⟨c', hc', _, r1, _⟩ := hc.row
      exact ⟨c', (Below.heap_setCell _ _ _ _ (hH _)).trans hc', r1⟩
    · obtain ⟨c', hc', r⟩ := h2 i (by omega)
      exact ⟨c', (Below.heap_setCell _ _ _ _ (hH _)).trans hc', r⟩
  · rw [Below.heap_setCell _ _ _ _ (hH' _ _)]
    by_cases e : i = k
    · subst e; exact hc.und j hj
    · exact h3 i (by omega) j hj

theorem Bld.gcell (h : Bld H len L Z w0 w k) {i : Nat} (hi : i < len) : ∃ v, w.cell? ⟨H, i, none⟩ = some v := by
  obtain ⟨c, hc, hs, _⟩ := h.grp
  exact ⟨c[i]'(by omega), by simp [World.cell?, hc, hs, hi]⟩
theorem Bld.gfree (h : Bld H len L Z w0 w k) (j : Nat) : w.frozen? ⟨H, j, none⟩ = false := by
  obtain ⟨c, hc, _, _⟩ := h.grp; simp [World.frozen?, hc]

/-- The end: the whole compensation lies there. -/
theorem Bld.mem (h : Bld H len L Z w0 w len) (hs : w.heap.size = stAt H L len) {n : Nat} (hin : InAll len n L Z) (v : Value) (hv : v = .iface 80 (.slice (some ⟨H, 0, none⟩) len len)) :
    Mem (w.alloc (.cells #[v, .int .i64 0] 89)) (mkLay H len L Z) n := by
  subst hv
  obtain ⟨⟨c, hc, hsz, hg⟩, h2, h3, _, _⟩ := h.alloc (.cells #[.iface 80 (.slice (some ⟨H, 0, none⟩) len len), .int .i64 0] 89)
  have hz : ∀ i, i < len → ∀ j, j < L i → ((Z i j).toNat : Int) = Z i j := fun i hi j hj => by have := hin i hi j hj; omega
  refine ⟨rfl, ⟨c, hc, hg⟩, fun i hi => ?_, fun i hi j hj => ?_, fun i hi j hj => ?_⟩
  · match i with
    | 0 =>
      refine ⟨_, by show (World.alloc _ _).heap[stAt H L len]? = _; rw [← hs]; exact heap_alloc_at _ _, fun j hj => ?_⟩
      have : j = 0 := by simp [mkLay] at hj; exact hj
      subst this
      exact ⟨rfl, rfl⟩
    | i + 1 => exact h2 i (by have : i + 1 ≤ len := hi; omega)
  · have := h3 i hi j hj
    rw [← hz i hi j hj] at this
    exact this
  · have := hin i hi j hj
    show (Z i j).toNat < n
    omega
end

theorem sumTo_le (f : Nat → Nat) {i k : Nat} (h : i < k) : f i ≤ sumTo f k := by
  induction k with
  | zero => omega
  | succ k ih =>
    by_cases e : i = k
    · subst e; simp only [sumTo]; omega
    · have := ih (by omega); simp only [sumTo]; omega
theorem sumTo_succ1 (f : Nat → Nat) (k : Nat) : sumTo (fun i => f i + 1) k = sumTo f k + k := by
  induction k with
  | zero => rfl
  | succ k ih => simp only [sumTo]; omega

theorem mem_sLnks (H len : Nat) (L : Nat → Nat) (Z : Nat → Nat → Int) (i x : Nat) : x ∈ (mkLay H len L Z).sLnks i ↔ x ∈ rowLks Z i (L i) := by
  simp [Lay.sLnks, mkLay, rowLks]
theorem mem_gLnks (H len : Nat) (L : Nat → Nat) (Z : Nat → Nat → Int) (x : Nat) : x ∈ (mkLay H len L Z).gLnks ↔ x ∈ lks L Z len := by
  simp only [Lay.gLnks, lks, List.mem_flatten, List.mem_reverse, List.mem_map, List.mem_flatMap]
  constructor
  · rintro ⟨l, ⟨i, hi, rfl⟩, hx⟩
    exact ⟨i, hi, (mem_sLnks H len L Z i x).1 hx⟩
  · rintro ⟨i, hi, hx⟩
    exact ⟨_, ⟨i, hi, rfl⟩, (mem_sLnks H len L Z i x).2 hx⟩

theorem Try.info89 : (Try.prog.info? 89).map (fun i => (i.zero, i.size, i.bytes)) = some (some (.agg pz), 2, 24) := by kernel_rfl
theorem Try.info82 : (Try.prog.info? 82).map (fun i => (i.zero, i.size, i.bytes)) = some (some (.slice none 0 0), 1, 24) := by kernel_rfl
theorem make_stack (n : Nat) (hn : n ≤ 1000000) (w : World) : (Instr.makeSlice 82 (.int .i64 n) (.int .i64 n)).run Try.prog w = .ok (.slice (some ⟨w.heap.size, 0, none⟩) n n) (w.alloc (.cells (madeCells pz (n * 2)) 89)) := by
  obtain ⟨i, hi, hzz⟩ := Option.map_eq_some_iff.1 Try.info89
  simp only [Prod.mk.injEq] at hzz
  obtain ⟨hz, hs, hb⟩ := hzz
  have := run_make (P := Try.prog) w 82 89 i (.agg pz) Try.underlying82 hi hz .i64 .i64 n n (by omega) (Int.le_refl _) (by rw [hb]; omega) (by omega)
  rw [hs] at this
  exact this

def DGPost (ub n : Nat) (ch : Nat → Nat) (s : GS) (r : Option (Int × ByteArray)) (l : List Nat) (w : World) (e : Ending) (w' : World) : Prop :=
  e = .returned (.tuple #[]) ∧ (∃ l', (∀ x, x ∈ l' ↔ x ∈ l) ∧ Gates w' ub n ch (opens r s l')) ∧ Kept (GS.Wr ub n ch) w w'

theorem Bld.start (w : World) (len : Nat) (L : Nat → Nat) (Z : Nat → Nat → Int) : Bld w.heap.size len L Z w (w.alloc (.cells (madeCells #[.slice none 0 0] len) 82)) 0 :=
  ⟨⟨_, heap_alloc_at _ _, size_madeCells _ _, fun i hi => by omega⟩, fun i hi => by omega, fun i hi => by omega, rfl, (Kept.refl _ _).alloc _⟩

set_option maxRecDepth 100000 in
set_option maxHeartbeats 1600000 in
theorem dropGroups_any (ao : Option Addr) (lb eb ub n : Nat) (ch : Nat → Nat) (s : GS) (v : Value) (r : Option (Int × ByteArray)) (b off len cap : Nat) (A : Nat → Option Addr) (L C JB JO : Nat → Nat) (Z : Nat → Nat → Int) (w : World)
    (hr : Rows2 w ao w.heap.size b off len A L C JB JO Z) (hlen : len ≤ 65536) (hsum : sumTo L len ≤ 200000) (hin : InAll len n L Z) (hg : Gates w ub n ch s) (hl : IsLinking w lb eb ub n) (hv : IsReach w v r) :
    Calls Try.prog 19 #[.pointer (some ⟨lb, 0, none⟩), v, .slice ao len cap] w (DGPost ub n ch s r (lks L Z len) w) := by
  have hmk := run_make_row' (P := Try.prog) 80 82 (.slice none 0 0) 24 Try.underlying80 Try.info82 rfl .i64 .i64 len (by omega) (by omega)
  go_enter Try.func19, Try.ntmps19
  go_wp2
  go_loopw [7] (fun i wr => ∃ k : Nat, k ≤ len ∧ i = .int .i64 k ∧ wr.heap.size = stAt w.heap.size L k ∧ Bld w.heap.size len L Z w wr k) (fun i _ => len - (intOf i).toNat)
  case atStart => exact ⟨0, Nat.zero_le _, rfl, by simp [stAt], Bld.start w len L Z⟩
  case round =>
    obtain ⟨k, hk, rfl, hsz, hB⟩ := hrel
    clear hmk
    by_cases hlt : k < len
    · have hbel := hB.kept.below (Nat.le_refl _) (fun _ _ h => h)
      have hr' := hr.below hbel
      have hc := (hr'.outer k hlt).2
      have hLk : L k ≤ 200000 := Nat.le_trans (sumTo_le L hlt) hsum
      have hms := make_stack (L k) (by omega)
      have hbB := (hr.outer k hlt).1
      have hge := hB.kept.size
      have hcb : ∀ o, (wr.alloc o).cell? ⟨b, off + k, none⟩ = some (.slice (A k) (L k) (C k)) := fun o => by rw [World.cell?_alloc_past _ _ _ (show b < wr.heap.size by omega)]; exact hc
      have hix := index_any (hr.addr (by omega)) hlt cap
      go_wp2
      go_loopw [9] (fun i wq => ∃ q : Nat, q ≤ L k ∧ i = .int .i64 q ∧ wq.heap.size = stAt w.heap.size L k + 1 + q ∧ Bld w.heap.size len L Z w wq k ∧ Cur w.heap.size L Z wq k q) (fun i _ => L k - (intOf i).toNat)
      case atStart => exact ⟨0, Nat.zero_le _, rfl, by simp [hsz], hB.alloc _, Cur.start hsz⟩
      case round =>
        clear hms hc hcb hbel hr' hsz hB hge
        obtain ⟨q, hq, rfl, hsz, hB, hC⟩ := hrel
        have hbel := hB.kept.below (Nat.le_refl _) (fun _ _ h => h)
        have hr' := hr.below hbel
        have hc := (hr'.outer k hlt).2
        by_cases hql : q < L k
        · obtain ⟨hA, hIB, hcell⟩ := hr'.inner k hlt (by omega)
          have hcz := hcell q hql
          have a2 : ∀ o, (wr.alloc o).cell? ⟨stAt w.heap.size L k, q * 2, none⟩ = some .nilIface := fun o => (hC.alloc o).cell hql
          have a3 : ∀ o, (wr.alloc o).cell? ⟨stAt w.heap.size L k, q * 2 + 1, none⟩ = some (.int .i64 0) := fun o => (hC.alloc o).cell1 hql
          have a4 : ∀ o j, (wr.alloc o).frozen? ⟨stAt w.heap.size L k, j, none⟩ = false := fun o => (hC.alloc o).free
          have hC' := hC.next hql hsz (Z k q) rfl
          have hB' := ((hB.alloc (.cells #[.nilIface, .int .i64 (Z k q)] 87)).setCell (p := ⟨stAt w.heap.size L k, q * 2, none⟩) (Nat.le_refl _) (.iface 83 (.pointer (some ⟨wr.heap.size, 0, none⟩)))).setCell (p := ⟨stAt w.heap.size L k, q * 2 + 1, none⟩) (Nat.le_refl _) (.int .i64 0)
          rw [hsz] at hC' hB'
          clear hC hB hcell hbel hr'
          go_wp2
          go_roundw
          case rel => exact ⟨q + 1, by omega, by go_num, by simp [World.setCell, hsz]; omega, hB', hC'⟩
          case measure => simp [intOf]; omega
        · have : q = L k := by omega
          subst this
          obtain ⟨u, hu⟩ := hB.gcell hlt
          have hf := hB.gfree
          have hB' := hB.next hC hlt
          have l1 : (0 : Int) ≤ (k : Int) := by omega
          have l2 : (k : Int) < (len : Int) := by omega
          clear hC hB
          go_wp2
          go_roundw
          case rel => exact ⟨k + 1, by omega, by go_num, by simp [World.setCell, hsz, stAt], hB'⟩
          case measure => simp [intOf]; omega
    · have : k = len := by omega
      subst this
      have hM := hB.mem hsz hin _ rfl
      have hK := hB.kept.alloc (.cells #[.iface 80 (.slice (some ⟨w.heap.size, 0, none⟩) k k), .int .i64 0] 89)
      have hW : (mkLay w.heap.size k L Z).gW ≤ 1000000 := by
        show sumTo (fun i => L i + 1) k + 1 ≤ 1000000
        rw [sumTo_succ1]; omega
      have hcall := drop_any ⟨mkLay w.heap.size k L Z, wr.alloc (.cells #[.iface 80 (.slice (some ⟨w.heap.size, 0, none⟩) k k), .int .i64 0] 89), ub, n, ch, lb, eb, v, r⟩ s _ rfl
        ⟨hg.kept hK (fun h => h) (fun _ _ h => h), hM, hK.at hl (fun h => h), hv.kept hK (fun _ _ _ h => h), Kept.refl _ _⟩ hW
      have hcall' : Hid (Calls Try.prog 29 #[.pointer (some ⟨lb, 0, none⟩), v, .iface 94 (.agg #[.slice (some ⟨stAt w.heap.size L k, 0, none⟩) 1 1, .nilIface])] (wr.alloc (.cells #[.iface 80 (.slice (some ⟨w.heap.size, 0, none⟩) k k), .int .i64 0] 89)) (DGPost ub n ch s r (lks L Z k) w)) := by
        refine Calls.mono hcall ?_
        rintro e w' ⟨rfl, hS⟩
        exact ⟨rfl, ⟨_, mem_gLnks w.heap.size k L Z, hS.gates⟩, (hK.mono (fun _ _ h => h.elim)).trans hS.kept⟩
      clear hcall hM hK hB hW
      go_wp2_with (go_at_call 29; refine Calls.mono hcall'.out ?_; intro e w' hp; obtain ⟨he, hp2⟩ := hp; subst he)
      go_end0
      exact ⟨rfl, hp2⟩

end Go.Proofs.Qxb6614780a
