/-
  internal/strconv.AppendUint and strconv.AppendUint at digits[:0].
-/
import Derived.Test.Qxb6615936aDoorApp
import Derived.Lib.AppendIntMem
import Derived.Lib.Hide
import Derived.BigCall
namespace Go.Proofs.Qxb6615936aDoor
open Go.RowKit Go.Sort
set_option linter.unusedVariables false
set_option linter.unusedSimpArgs false

def Tab (w : World) : Prop := Lib.TabIs Tryd.prog w powName .u64 Lib.pow10Tab

def AppPost (g u : Nat) (w : World) (e : Ending) (w' : World) : Prop :=
  e = .returned (.slice (some ⟨g, 0, none⟩) (Lib.nDigits u) 20) ∧ w.grownBy w' (some g) ∧ Front w' g (Lib.decDigits u)

set_option maxHeartbeats 6400000 in
set_option maxRecDepth 100000 in
theorem app20_small (g k u : Nat) (cur : Array Value) (hu : u < 100) (w : World) (hg : w.heap[g]? = some (.cells cur k (0, 0))) (hcs : cur.size = 20) :
    Calls Tryd.prog 20 #[.slice (some ⟨g, 0, none⟩) 0 20, .int .u64 u, .int .i64 10] w (AppPost g u w) := by
  have hnd := Lib.nDigits_le20 u (by omega)
  have HC : Hid (∀ W, Calls Tryd.prog 21 #[.int .i64 u] W fun e w' => e = .returned (.string ⟨(Lib.decDigits u).toArray⟩) ∧ w' = W) := fun W => Tryd.internal_strconv_small u hu W
  go_enter Tryd.func20, Tryd.ntmps20
  go_wp2_with fail
  refine (HC.out _).mono ?_
  rintro e w1 ⟨rfl, hw⟩
  subst hw
  go_wp2_with (at_builtin; refine wpList_append_in_string rfl _ _ rfl g k cur rfl hg hcs (Lib.decDigits u) (Lib.nDigits u) (Lib.decDigits_length u) hnd rfl ?_)
  intro w2 hgr hf
  go_wp2
  go_ret
  exact ⟨rfl, hgr, hf⟩

set_option maxHeartbeats 12800000 in
set_option maxRecDepth 100000 in
theorem app20_big (g k u : Nat) (cur : Array Value) (hu : 100 ≤ u) (hu64 : u < 18446744073709551616) (w : World) (hg : w.heap[g]? = some (.cells cur k (0, 0))) (hcs : cur.size = 20) (htab : Tab w) :
    Calls Tryd.prog 20 #[.slice (some ⟨g, 0, none⟩) 0 20, .int .u64 u, .int .i64 10] w (AppPost g u w) := by
  have hnd := Lib.nDigits_le20 u hu64
  have hglt : g < w.heap.size := (Array.getElem?_eq_some_iff.1 hg).1
  have hal : Tryd.prog.arrayLen 63 = 24 := by simp [Program.arrayLen, Tryd.underlying63]
  have hsl : ∀ W, (Instr.sliceAt 63 (.pointer (some ⟨w.heap.size, 0, none⟩)) none (some (.int .i64 (Lib.nDigits u : Int))) none).run Tryd.prog W = .ok (.slice (some ⟨w.heap.size, 0, none⟩) (Lib.nDigits u) 24) W := fun W => by
    rw [run_sliceAt_array_h W 63 ⟨w.heap.size, 0, none⟩ (by simp [Program.arrayLen, Program.elem, Tryd.underlying63]) .i64 (Lib.nDigits u : Int) (by omega) (by rw [hal]; omega)]
    go_simp
  have hH0 := Lib.holds_zero0 w 63 (Lib.nDigits u) (by omega)
  have hfmt := Tryd.internal_strconv_formatBase10 w.heap.size 0 24 u (Array.replicate (Lib.nDigits u) 0) (w.alloc (.cells Lib.zeros24 63)) hH0 (by rw [Array.size_replicate]; exact Lib.lt_pow_nDigits u) hu64 (by rw [Array.size_replicate]; omega)
  rw [Array.size_replicate] at hfmt
  have HF := Lib.hid hfmt
  have HH0 := Lib.hid hH0
  have HN : Hid (Calls Tryd.prog 22 #[.int .u64 u] (w.alloc (.cells Lib.zeros24 63)) fun e w' => e = .returned (.int .i64 (Lib.nDigits u)) ∧ w' = w.alloc (.cells Lib.zeros24 63)) := Tryd.internal_strconv_numDigits u (by omega) hu64 _ (Lib.tabIs_alloc htab _)
  have iu : (100 : Int) ≤ (u : Int) := by omega
  clear hH0 hal hfmt htab
  go_enter Tryd.func20, Tryd.ntmps20
  go_wp2_with fail
  refine Calls.mono HN.out ?_
  rintro e w1 ⟨rfl, hw⟩
  subst hw
  go_wp2_with fail
  refine Calls.mono HF.out ?_
  rintro e w' ⟨rfl, n, v', dk, rfl, hF⟩
  have hcells : ∀ j x, (Lib.decDigits u)[j]? = some x → ((putRow (fun (b : UInt8) => Value.int .u8 (b.toNat : Int)) (w.alloc (.cells Lib.zeros24 63)) w.heap.size 0 dk).drewN n).cell? ((⟨w.heap.size, 0, none⟩ : Addr).add j) = some (.int .u8 (x.toNat : Int)) := by
    intro j x hj
    obtain ⟨hjl, hjx⟩ := List.getElem?_eq_some_iff.1 hj
    rw [← hjx, Lib.row_is_numeral hF j hjl, Lib.add_plain, World.cell?_drewN]
    exact cell?_putRow (fun (b : UInt8) => Value.int .u8 (b.toNat : Int)) _ w.heap.size 0 _ dk HH0.out (by rw [hF.size, Array.size_replicate]) j (by rw [hF.size]; rw [Lib.decDigits_length] at hjl; exact hjl)
  obtain ⟨os, eo⟩ := Lib.fin_at w (.cells Lib.zeros24 63) dk n 0
  have hgr : w.grownBy ((putRow (fun (b : UInt8) => Value.int .u8 (b.toNat : Int)) (w.alloc (.cells Lib.zeros24 63)) w.heap.size 0 dk).drewN n) none := by
    rw [eo]
    exact ⟨rfl, rfl, rfl, Lib.size_grow w n os, fun j hj _ => Lib.heap_grow_old w n os j hj⟩
  generalize (putRow (fun (b : UInt8) => Value.int .u8 (b.toNat : Int)) (w.alloc (.cells Lib.zeros24 63)) w.heap.size 0 dk).drewN n = W2 at hcells hgr ⊢
  clear eo
  have hg2 : W2.heap[g]? = some (.cells cur k (0, 0)) := by rw [hgr.block g hglt (by simp)]; exact hg
  have HC := Lib.hid hcells
  clear hcells
  go_wp2_with (at_builtin; refine wpList_append_in rfl _ _ rfl g k cur rfl hg2 hcs ⟨w.heap.size, 0, none⟩ (Lib.nDigits u) 24 (Lib.decDigits u) (Lib.decDigits_length u) hnd rfl HC.out ?_)
  intro w3 hgr3 hf
  go_wp2
  go_ret
  exact ⟨rfl, ⟨hgr3.os.trans hgr.os, hgr3.tape.trans hgr.tape, hgr3.output.trans hgr.output, Nat.le_trans hgr.size hgr3.size, fun j hj hne => (hgr3.block j (Nat.lt_of_lt_of_le hj hgr.size) hne).trans (hgr.block j hj (by simp))⟩, hf⟩

theorem app20 (g k u : Nat) (cur : Array Value) (hu64 : u < 18446744073709551616) (w : World) (hg : w.heap[g]? = some (.cells cur k (0, 0))) (hcs : cur.size = 20) (htab : Tab w) :
    Calls Tryd.prog 20 #[.slice (some ⟨g, 0, none⟩) 0 20, .int .u64 u, .int .i64 10] w (AppPost g u w) := by
  by_cases h : u < 100
  · exact app20_small g k u cur h w hg hcs
  · exact app20_big g k u cur (by omega) hu64 w hg hcs htab

set_option maxRecDepth 100000 in
theorem app18 (g k u : Nat) (cur : Array Value) (hu64 : u < 18446744073709551616) (w : World) (hg : w.heap[g]? = some (.cells cur k (0, 0))) (hcs : cur.size = 20) (htab : Tab w) :
    Calls Tryd.prog 18 #[.slice (some ⟨g, 0, none⟩) 0 20, .int .u64 u, .int .i64 10] w (AppPost g u w) := by
  have HC := Lib.hid (app20 g k u cur hu64 w hg hcs htab)
  clear htab hg
  go_enter Tryd.func18, Tryd.ntmps18
  go_wp2_with fail
  refine Calls.mono HC.out ?_
  rintro e w1 ⟨rfl, h1, h2⟩
  go_wp2
  go_ret
  exact ⟨rfl, h1, h2⟩
end Go.Proofs.Qxb6615936aDoor
