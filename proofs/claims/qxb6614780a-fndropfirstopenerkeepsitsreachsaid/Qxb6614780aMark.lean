/-
  zzMark: a new row of n bools, true at the links that are named.
-/
import Derived.Test.Qxb6614780aRead
namespace Go.Proofs.Qxb6614780a
open Go.RowKit

/-- The links that row k names, up to place q; the links of the first k rows. -/
def rowLks (Z : Nat → Nat → Int) (k q : Nat) : List Nat := (List.range q).map fun j => (Z k j).toNat
def lks (L : Nat → Nat) (Z : Nat → Nat → Int) (k : Nat) : List Nat := (List.range k).flatMap fun k => rowLks Z k (L k)

theorem rowLks_succ (Z : Nat → Nat → Int) (k q : Nat) : rowLks Z k (q + 1) = rowLks Z k q ++ [(Z k q).toNat] := by simp [rowLks, List.range_succ]
theorem lks_succ (L : Nat → Nat) (Z : Nat → Nat → Int) (k : Nat) : lks L Z (k + 1) = lks L Z k ++ rowLks Z k (L k) := by simp [lks, List.range_succ]
theorem rowLks_zero (Z : Nat → Nat → Int) (k : Nat) : rowLks Z k 0 = [] := rfl

/-- The array of marks. -/
def Marks (c : Array Value) (n : Nat) (l : List Nat) : Prop := c.size = n ∧ ∀ i, i < n → c[i]? = some (.bool (l.contains i))

theorem Marks.start (n : Nat) : Marks (madeCells #[.bool false] n) n [] := ⟨size_madeCells _ _, fun i hi => by simp [madeCells, hi, Nat.mod_one]⟩
theorem Marks.set {c : Array Value} {n : Nat} {l : List Nat} (h : Marks c n l) (x : Nat) : Marks (c.setIfInBounds x (.bool true)) n (l ++ [x]) := by
  refine ⟨by simpa using h.1, fun i hi => ?_⟩
  rw [Array.getElem?_setIfInBounds]
  by_cases e : x = i
  · subst e; simp [h.1, hi]
  · rw [if_neg e, h.2 i hi]
    have : (l ++ [x]).contains i = l.contains i := by simp [Ne.symm e]
    rw [this]

theorem Try.info4 : (Try.prog.info? 4).map (fun i => (i.zero, i.size, i.bytes)) = some (some (.bool false), 1, 1) := by kernel_rfl

def MarkPost (n : Nat) (l : List Nat) (w : World) (e : Ending) (w' : World) : Prop :=
  ∃ c, e = .returned (.slice (some ⟨w.heap.size, 0, none⟩) n n) ∧ w' = w.alloc (.cells c 4) ∧ Marks c n l

set_option maxHeartbeats 800000 in
theorem mark_any (ao : Option Addr) (b off len cap n : Nat) (A : Nat → Option Addr) (L C JB JO : Nat → Nat) (Z : Nat → Nat → Int) (w : World) (hr : Rows2 w ao w.heap.size b off len A L C JB JO Z) (hlen : len ≤ 65536) (hn : n ≤ 65536) (hin : InAll len n L Z) :
    Calls Try.prog 17 #[.slice ao len cap, .int .i64 n] w (MarkPost n (lks L Z len) w) := by
  have hmk := run_make_row' (P := Try.prog) 45 4 (.bool false) 1 Try.underlying45 Try.info4 rfl .i64 .i64 n (by omega) (by omega)
  go_enter Try.func17, Try.ntmps17
  go_wp2
  go_loopw [6] (fun i wr => ∃ (k : Nat) (c : Array Value), k ≤ len ∧ i = .int .i64 k ∧ wr = w.alloc (.cells c 4) ∧ Marks c n (lks L Z k)) (fun i _ => len - (intOf i).toNat)
  case atStart => exact ⟨0, _, Nat.zero_le _, rfl, rfl, Marks.start n⟩
  case round =>
    obtain ⟨k, c, hk, rfl, rfl, hm⟩ := hrel
    clear hmk
    by_cases hlt : k < len
    · have hc : ∀ o, (w.alloc o).cell? ⟨b, off + k, none⟩ = some (.slice (A k) (L k) (C k)) := fun o => by rw [World.cell?_alloc_past _ _ _ (hr.outer k hlt).1]; exact (hr.outer k hlt).2
      have hs := hr.small k hlt
      unfold maxLen at hs
      have hix := index_any (hr.addr (by omega)) hlt cap
      go_wp2
      go_loopw [7] (fun i wr => ∃ (q : Nat) (c : Array Value), q ≤ L k ∧ i = .int .i64 q ∧ wr = w.alloc (.cells c 4) ∧ Marks c n (lks L Z k ++ rowLks Z k q)) (fun i _ => L k - (intOf i).toNat)
      case atStart => exact ⟨0, _, Nat.zero_le _, rfl, rfl, by rw [rowLks_zero, List.append_nil]; exact hm⟩
      case round =>
        obtain ⟨q, c', hq, rfl, rfl, hm'⟩ := hrel
        by_cases hql : q < L k
        · obtain ⟨hA, hIB, hcell⟩ := hr.inner k hlt (by omega)
          have hcz : ∀ o, (w.alloc o).cell? ⟨JB k, JO k + q, none⟩ = some (.int .i64 (Z k q)) := fun o => by rw [World.cell?_alloc_past _ _ _ hIB]; exact hcell q hql
          obtain ⟨z1, z2⟩ := hin k hlt q hql
          have hsz := hm'.1
          go_wp2
          go_roundw
          case rel => exact ⟨q + 1, _, by omega, by go_num, rfl, by rw [rowLks_succ, ← List.append_assoc]; exact hm'.set _⟩
          case measure => simp [intOf]; omega
        · have : q = L k := by omega
          subst this
          go_wp2
          go_roundw
          case rel => exact ⟨k + 1, _, by omega, by go_num, rfl, by rw [lks_succ]; exact hm'⟩
          case measure => simp [intOf]; omega
    · have : k = len := by omega
      subst this
      go_wp2
      go_ret
      exact ⟨c, rfl, rfl, hm⟩

end Go.Proofs.Qxb6614780a
