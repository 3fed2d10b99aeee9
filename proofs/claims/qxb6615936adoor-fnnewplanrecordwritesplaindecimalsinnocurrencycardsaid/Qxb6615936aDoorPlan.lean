/-
  nbPlan.
-/
import Derived.Test.Qxb6615936aDoorDate
import Derived.Test.Qxb6615936aDoorRowsTo
namespace Go.Proofs.Qxb6615936aDoor
open Go.RowKit Go.Sort
set_option linter.unusedVariables false
set_option linter.unusedSimpArgs false

structure Amts (w : World) (ao : Option Addr) (b off len : Nat) (A : Nat → Int) : Prop where
  addr : 0 < len → ao = some ⟨b, off, none⟩
  lt : 0 < len → b < w.heap.size
  cell : ∀ k, k < len → w.cell? ⟨b, off + k, none⟩ = some (.int .i64 (A k))
  low : ∀ k, k < len → -9223372036854775808 ≤ A k
  high : ∀ k, k < len → A k ≤ 9223372036854775807

theorem index22 {ao : Option Addr} {b off len k : Nat} (ha : ao = some ⟨b, off, none⟩) (hk : k < len) (cap : Nat) (w : World) : (Instr.indexAt 22 (.slice ao len cap) (.int .i64 k)).run Tryd.prog w = .ok (.pointer (some ⟨b, off + k, none⟩)) w := by
  subst ha
  have h1 : (0 : Int) ≤ (k : Int) := by omega
  have h2 : (k : Int) < (len : Int) := by omega
  go_simp

def zIns : Array Value := #[.int .i64 0, .int .i64 0, .int .i64 0, .int .i64 0, .int .i64 0, .slice none 0 0]
theorem info42 : (Tryd.prog.info? 42).map (fun i => (i.size, i.bytes, i.zero)) = some (6, 64, some (.agg zIns)) := by kernel_rfl

theorem info42' : ∃ i, Tryd.prog.info? 42 = some i ∧ i.size = 6 ∧ i.bytes = 64 ∧ i.zero = some (.agg zIns) := by
  have h := info42
  cases e : Tryd.prog.info? 42 with
  | none => rw [e] at h; cases h
  | some i =>
    rw [e] at h
    simp only [Option.map_some, Option.some.injEq, Prod.mk.injEq] at h
    exact ⟨i, rfl, h.1, h.2.1, h.2.2⟩

theorem make35 (n : Nat) (hn : n ≤ 65536) (w : World) : (Instr.makeSlice 35 (.int .i64 n) (.int .i64 n)).run Tryd.prog w = .ok (.slice (some ⟨w.heap.size, 0, none⟩) n n) (w.alloc (.cells (madeCells zIns (n * 6)) 42)) := by
  obtain ⟨i, hi, hs, hb, hz⟩ := info42'
  rw [run_make (P := Tryd.prog) w 35 42 i (.agg zIns) Tryd.underlying35 hi hz .i64 .i64 n n (by omega) (by omega) (by rw [hb]; omega) (by omega), hs]
  rfl

/-- One installment's cells. -/
def insCells (k : Nat) (a : Int) : Array Value := #[.int .i64 ((k : Int) + 1), .int .i64 0, .int .i64 0, .int .i64 0, .int .i64 a, .slice none 0 0]

theorem insCells_size (k : Nat) (a : Int) : (insCells k a).size = 6 := rfl

structure PlanTo (w : World) (len : Nat) (A : Nat → Int) (wr : World) (k : Nat) : Prop where
  bel : Below w.heap.size w wr
  lt : w.heap.size < wr.heap.size
  rows : RowsTo 6 (fun j => insCells j (A j)) len w.heap.size wr k

def planCells (id acc : ByteArray) (am it vs : Int) (ib len : Nat) : Array Value :=
  #[.string id, .string acc, .string ⟨#[]⟩, .int .i64 0, .int .i64 am, .int .i64 it, .string ⟨#[]⟩, .int .u64 0, .int .i64 vs, .slice (some ⟨ib, 0, none⟩) len len, .slice none 0 0, .slice none 0 0, .slice none 0 0]

/-- The plan that nbPlan leaves. -/
structure PlanAt (id acc : ByteArray) (am it vs : Int) (len : Nat) (A : Nat → Int) (pb ib : Nat) (w : World) : Prop where
  plan : w.heap[pb]? = some (.cells (planCells id acc am it vs ib len) 52 (0, 0))
  ins : RowsTo 6 (fun j => insCells j (A j)) len ib w len
  lt : ib < w.heap.size

def PlanPost (id acc : ByteArray) (am it vs : Int) (len : Nat) (A : Nat → Int) (w : World) (e : Ending) (w' : World) : Prop :=
  ∃ pb ib, e = .returned (.pointer (some ⟨pb, 0, none⟩)) ∧ PlanAt id acc am it vs len A pb ib w' ∧ Below w.heap.size w w'

set_option maxHeartbeats 1600000 in
set_option maxRecDepth 100000 in
theorem plan7 (id acc : ByteArray) (am it vs : Int) (ao : Option Addr) (b off len cap : Nat) (A : Nat → Int) (w : World) (ha : Amts w ao b off len A) (hlen : len ≤ 65536) :
    Calls Tryd.prog 7 #[.string id, .string acc, .int .i64 am, .int .i64 it, .int .i64 vs, .slice ao len cap] w (PlanPost id acc am it vs len A w) := by
  have hmk := make35 len hlen
  go_enter Tryd.func7, Tryd.ntmps7
  go_wp2
  go_loopw [14] (fun i wr => ∃ (k : Nat), k ≤ len ∧ i = .int .i64 k ∧ PlanTo w len A wr k) (fun i _ => len - (intOf i).toNat)
  case atStart => exact ⟨0, Nat.zero_le _, rfl, (Below.refl _ _).alloc (Nat.le_refl _) _, by simp, RowsTo.start (heap_alloc_new w _) (size_madeCells _ _)⟩
  case round =>
    obtain ⟨k, hk, rfl, hP⟩ := hrel
    clear hmk
    by_cases hlt : k < len
    · have hix := index22 (ha.addr (by omega)) hlt cap
      have hc : wr.cell? ⟨b, off + k, none⟩ = some (.int .i64 (A k)) := by rw [hP.bel.cell (p := ⟨b, off + k, none⟩) (ha.lt (by omega))]; exact ha.cell k hlt
      have hst : (Instr.storeAt 42 (.pointer (some ⟨w.heap.size, k * 6, none⟩)) (.agg #[.int .i64 ((k : Int) + 1), .int .i64 0, .int .i64 0, .int .i64 0, .int .i64 (A k), .slice none 0 0])).run Tryd.prog wr = .ok () (wr.setCells w.heap.size (k * 6) (insCells k (A k)).toList) :=
        run_storeAt_mid (P := Tryd.prog) wr w.heap.size (k * 6) 42 (insCells k (A k)) (hP.rows.room hlt) (by kernel_rfl) (by simp [insCells, Value.oneCell'])
      have HP : Hid (PlanTo w len A (wr.setCells w.heap.size (k * 6) (insCells k (A k)).toList) (k + 1)) := ⟨below_setCells' (Nat.le_refl _) _ _ hP.bel, by rw [size_setCells]; exact hP.lt, hP.rows.next hlt (fun _ => rfl)⟩
      clear hP
      generalize wr.setCells w.heap.size (k * 6) (insCells k (A k)).toList = wn at hst HP
      go_wp2_with (refine wpList_store rfl 42 _ _ rfl _ _ rfl rfl hst ?_)
      go_wp2
      go_roundw
      case rel => exact ⟨k + 1, by omega, by go_num, HP.out⟩
      case measure => simp [intOf]; omega
    · have : k = len := by omega
      subst this
      have HP := Lib.hid hP
      clear hP
      go_wp2
      go_ret
      have hP := HP.out
      exact ⟨wr.heap.size, w.heap.size, rfl, ⟨heap_alloc_new wr _, hP.rows.of_block (heap_alloc_old wr _ hP.lt), Nat.lt_of_lt_of_le hP.lt (by simp)⟩, hP.bel.alloc (Nat.le_of_lt hP.lt) _⟩
end Go.Proofs.Qxb6615936aDoor
