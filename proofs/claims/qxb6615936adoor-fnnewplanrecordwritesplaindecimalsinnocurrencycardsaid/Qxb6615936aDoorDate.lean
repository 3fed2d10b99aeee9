/-
  String of the zero Date.
-/
import Derived.Test.Qxb6615936aDoorFormat
namespace Go.Proofs.Qxb6615936aDoor
open Go.RowKit Go.Sort
set_option linter.unusedVariables false
set_option linter.unusedSimpArgs false

def zdateS : ByteArray := ⟨#[48, 48, 48, 48, 45, 48, 48, 45, 48, 48]⟩

set_option maxHeartbeats 1600000 in
set_option maxRecDepth 100000 in
theorem date14 (w : World) : Calls Tryd.prog 14 #[.agg #[.int .i64 0, .int .i64 0, .int .i64 0]] w (StrPost zdateS w) := by
  go_enter Tryd.func14, Tryd.ntmps14
  go_wp2
  generalize hW : (World.alloc _ (Obj.cells _ 39)) = W
  have hbel : Below w.heap.size w W := by rw [← hW]; exact (Below.refl _ _).alloc (Nat.le_refl _) _
  have hbox : W.heap[w.heap.size]? = some (.cells #[.int .i64 0, .int .i64 0, .int .i64 0] 39 (0, 0)) := by rw [← hW]; exact heap_alloc_new w _
  clear hW
  refine wp_region_held_drew (S := fun W => Below w.heap.size w W ∧ W.heap[w.heap.size]? = some (.cells #[.int .i64 0, .int .i64 0, .int .i64 0] 39 (0, 0))) (by kernel_rfl) ⟨hbel.drew, hbox⟩ (fun hHeld => ?_)
  refine take_val (i := 0) (v := .agg #[.int .i64 0, .int .i64 0, .int .i64 0]) rfl (by kernel_rfl) (by kernel_rfl) (by kernel_rfl) (fun _ _ _ h => h) (by rfl) (by
    intro w1 hw
    have h0 : w1.cell? ⟨w.heap.size, 0, none⟩ = some (.int .i64 0) := cell_of_row w1 w.heap.size 0 _ _ _ hw.2
    have h1 : w1.cell? ⟨w.heap.size, 1, none⟩ = some (.int .i64 0) := cell_of_row w1 w.heap.size 1 _ _ _ hw.2
    have h2 : w1.cell? ⟨w.heap.size, 2, none⟩ = some (.int .i64 0) := cell_of_row w1 w.heap.size 2 _ _ _ hw.2
    go_simp) (by assumption) ?_
  simp only [Act.put, List.setIfInBounds_toArray, List.set_cons_zero, List.set_cons_succ]
  obtain ⟨i, hi, hsz, hby, hz⟩ := info5'
  have hWs : w.heap.size < W.heap.size := (Array.getElem?_eq_some_iff.1 hbox).1
  obtain ⟨W2, hmk, hown, hgr⟩ := run_make_own (P := Tryd.prog) W.drew W.heap.size 54 5 i (.int .u8 0) 1 Tryd.underlying54 hi hz hsz .i64 .i64 10 (by omega) (by decide) (Nat.le_refl _)
  have hmk' : (Instr.makeSlice 54 (.int .i64 0) (.int .i64 10)).run Tryd.prog W.drew = .ok (.slice (some ⟨W.heap.size, 0, none⟩) 0 10) W2 := hmk
  have hb2 : Below w.heap.size w W2 := hbel.drew.grown hgr (by show w.heap.size ≤ W.heap.size; omega) (fun k hk => by cases hk)
  have hx2 : W2.heap[w.heap.size]? = some (.cells #[.int .i64 0, .int .i64 0, .int .i64 0] 39 (0, 0)) := (hgr.block _ hWs (by simp)).trans hbox
  have hW2s := hb2.size
  refine one_val (i := 1) (v := .slice (some ⟨W.heap.size, 0, none⟩) 0 10) (w2 := W2) rfl (by kernel_rfl) (by rfl) (by go_simp) ⟨hb2, hx2⟩ ?_
  simp only [Act.put, List.setIfInBounds_toArray, List.set_cons_zero, List.set_cons_succ]
  refine one_call (i := 2) rfl (by kernel_rfl) (by rfl) 16 #[.agg #[.int .i64 0, .int .i64 0, .int .i64 0], .slice (some ⟨W.heap.size, 0, none⟩) 0 10] (by go_simp) ?_
  clear hmk hmk'
  have HO : Hid (W2.ownsRow W.heap.size 5 1 (.slice (some ⟨W.heap.size, 0, none⟩) 0 10) ([] : List UInt8).length (Lib.byteCells [])) := hown
  refine (to16 W.heap.size _ W2 HO.out hgr.size).mono ?_
  rintro e W3 ⟨g, cap, rfl, hown3, hbel3⟩
  have hcv := run_string_own W3 _ g cap zdateS hown3
  have hb3 : Below w.heap.size w W3 := hb2.trans (hbel3.mono (by omega))
  have hx3 : W3.heap[w.heap.size]? = some (.cells #[.int .i64 0, .int .i64 0, .int .i64 0] 39 (0, 0)) := (hbel3.block _ hWs).trans hx2
  have hS3 : Below w.heap.size w W3 ∧ W3.heap[w.heap.size]? = some (.cells #[.int .i64 0, .int .i64 0, .int .i64 0] 39 (0, 0)) := ⟨hb3, hx3⟩
  refine ⟨_, rfl, hS3, ?_⟩
  simp only [Act.put, List.setIfInBounds_toArray, List.set_cons_zero, List.set_cons_succ]
  have hn : zdate.length = zdateS.data.toList.length := rfl
  rw [hn]
  generalize zdateS.data.toList.length = n at hcv ⊢
  refine one_val (i := 3) (v := .string zdateS) (w2 := W3) rfl (by kernel_rfl) (by rfl) (by go_simp) hS3 ?_
  simp only [Act.put, List.setIfInBounds_toArray, List.set_cons_zero, List.set_cons_succ]
  refine take_val (i := 4) rfl (by kernel_rfl) (by kernel_rfl) (by kernel_rfl) (fun _ _ _ h => h) (by rfl) (by intro w hw; go_simp; with_reducible rfl) (by assumption) ?_
  simp only [Act.put, List.setIfInBounds_toArray, List.set_cons_zero, List.set_cons_succ]
  refine wpAnyH_done (by kernel_rfl) ?_ _
  have HB := Lib.hid hb3
  clear hS3 hx3 hb3 hcv hown3 hbel3 HO hown hgr hb2 hx2 hHeld hbel hbox
  go_wp2
  go_ret
  exact ⟨rfl, HB.out⟩
end Go.Proofs.Qxb6615936aDoor
