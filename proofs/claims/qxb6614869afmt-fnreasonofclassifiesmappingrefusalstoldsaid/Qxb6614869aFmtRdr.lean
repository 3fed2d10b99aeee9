/-
  (*reader).bytes.
-/
import Derived.Test.Qxb6614869aFmtErr
import Derived.Test.Qxb6614869aFmtHeld
import Derived.BigQuiet
namespace Go.Proofs.Qxb6614869aFmt
open Go.RowKit Go.Extern.Stop Go.Stop Go.Extern Go.Kit
set_option linter.unusedVariables false
set_option linter.unusedSimpArgs false

/-- a reader at block rb: what it reads, and where it stands -/
def RdrAt (w : World) (rb : Nat) (sl : Value) (off : Int) : Prop := w.heap[rb]? = some (.cells #[sl, .int .i64 off] 34 (0, 0))

theorem RdrAt.c0 {w : World} {rb : Nat} {sl : Value} {off : Int} (h : RdrAt w rb sl off) : w.cell? ⟨rb, 0, none⟩ = some sl := by
  simp [World.cell?, RdrAt] at h ⊢; simp [h]
theorem RdrAt.c1 {w : World} {rb : Nat} {sl : Value} {off : Int} (h : RdrAt w rb sl off) : w.cell? ⟨rb, 1, none⟩ = some (.int .i64 off) := by
  simp [World.cell?, RdrAt] at h ⊢; simp [h]
theorem RdrAt.f1 {w : World} {rb : Nat} {sl : Value} {off : Int} (h : RdrAt w rb sl off) : w.frozen? ⟨rb, 1, none⟩ = false := by
  simp [World.frozen?, RdrAt] at h ⊢; simp [h]
theorem RdrAt.lt {w : World} {rb : Nat} {sl : Value} {off : Int} (h : RdrAt w rb sl off) : rb < w.heap.size := (Array.getElem?_eq_some_iff.1 h).1

def ShortPost (r : ByteArray) (w : World) (e : Ending) (w' : World) : Prop :=
  ∃ b d, e = .returned (.tuple #[.slice none 0 0, .iface 37 (.pointer (some ⟨b, 0, none⟩))]) ∧ RefAt w' b r d ∧ d.size ≤ 1000 ∧ w.heap.size ≤ b ∧ Below w.heap.size w w'

theorem Below.drewN {B : Nat} {w w' : World} (h : Below B w w') (k : Nat) : Below B w (w'.drewN k) := ⟨h.os, h.tape, h.output, h.size, h.block⟩

theorem wf64 (x : Int) (h0 : -9223372036854775808 ≤ x) (h1 : x ≤ 9223372036854775807) : (Lit.int .i64 x).wf = true := by
  simp [Lit.wf, IntKind.min, IntKind.max, IntKind.signed, IntKind.bits]; omega

theorem wrap64 (x : Int) (h0 : -9223372036854775808 ≤ x) (h1 : x ≤ 9223372036854775807) : IntKind.i64.wrap x = x := by
  simp [IntKind.wrap, IntKind.signed, IntKind.bits]; omega

theorem cell_new {w : World} {vs : Array Value} {t : TypeId} {j : Nat} {v : Value} (h : vs[j]? = some v) : (w.alloc (.cells vs t (0, 0))).cell? ⟨w.heap.size, j, none⟩ = some v := by
  unfold World.cell?
  simp only [(MapKept.heap_alloc w _).1]
  simpa using h

set_option maxHeartbeats 1600000 in
set_option maxRecDepth 100000 in
theorem bytes_short (F : Interp) (rb : Nat) (p : Option Addr) (n cap : Nat) (off k : Int) (w : World) (hF : F.told.answers w.tape) (hR : RdrAt w rb (.slice p n cap) off) (h0 : 0 ≤ off) (h1 : off ≤ n) (hn : n ≤ 1048576) (k0 : 0 ≤ k) (k1 : k ≤ 1048576) (hk : (n : Int) - off < k) :
    Calls Tryf.prog 10 #[.pointer (some ⟨rb, 0, none⟩), .int .i64 k] w (ShortPost bTrunc w) := by
  have c0 := hR.c0
  have c1 := hR.c1
  have hlt := hR.lt
  have g1 : decide (k < 0) = false := decide_eq_false (by omega)
  have g2 : decide ((n : Int) - off < k) = true := decide_eq_true hk
  have hwr := wrap64 ((n : Int) - off) (by omega) (by omega)
  have HR := Lib.hid hR
  clear hR
  go_enter Tryf.func10, Tryf.ntmps10
  go_wp2_with fail
  go_quiet (fail)
  go_wp2_with fail
  have hbel : Below w.heap.size w (w.drewN nq) := Below.drewN (Below.refl _ _) _
  clear c0 c1
  refine wp_region_held_drew (S := fun W => Below w.heap.size w W) (by kernel_rfl) hbel.drew (fun hHeld => ?_)
  refine take_val (i := 0) rfl (by kernel_rfl) (by kernel_rfl) (by kernel_rfl) (fun _ _ _ h => h) (by rfl) (by intro W1 hw; go_simp; with_reducible rfl) (by assumption) ?_
  simp only [Act.put, List.setIfInBounds_toArray, List.set_cons_zero, List.set_cons_succ]
  refine take_val (i := 1) rfl (by kernel_rfl) (by kernel_rfl) (by kernel_rfl) (fun _ _ _ h => h) (by rfl) (by intro W1 hw; go_simp; with_reducible rfl) (by assumption) ?_
  simp only [Act.put, List.setIfInBounds_toArray, List.set_cons_zero, List.set_cons_succ]
  refine take_val (i := 2) rfl (by kernel_rfl) (by kernel_rfl) (by kernel_rfl) (fun _ _ _ h => h) (by rfl) (by intro W1 hw; go_simp; with_reducible rfl) (by assumption) ?_
  simp only [Act.put, List.setIfInBounds_toArray, List.set_cons_zero, List.set_cons_succ]
  refine take_val (i := 3) rfl (by kernel_rfl) (by kernel_rfl) (by kernel_rfl) (fun _ _ _ h => h) (by rfl) (by intro W1 hw; go_simp; with_reducible rfl) (by assumption) ?_
  simp only [Act.put, List.setIfInBounds_toArray, List.set_cons_zero, List.set_cons_succ]
  refine take_val (i := 4) rfl (by kernel_rfl) (by kernel_rfl) (by kernel_rfl) (fun _ _ _ h => h) (by rfl) (by intro W1 hw; go_simp; with_reducible rfl) (by assumption) ?_
  simp only [Act.put, List.setIfInBounds_toArray, List.set_cons_zero, List.set_cons_succ]
  refine take_val (i := 5) (v := (.int .i64 off)) rfl (by kernel_rfl) (by kernel_rfl) (by kernel_rfl) (fun _ _ _ h => h) (by rfl) (by intro W1 hw; have e1 : W1.cell? ⟨rb, 1, none⟩ = some (.int .i64 off) := (hw.cell hlt).trans HR.out.c1; go_simp) (by assumption) ?_
  simp only [Act.put, List.setIfInBounds_toArray, List.set_cons_zero, List.set_cons_succ]
  refine take_val (i := 6) rfl (by kernel_rfl) (by kernel_rfl) (by kernel_rfl) (fun _ _ _ h => h) (by rfl) (by intro W1 hw; go_simp; with_reducible rfl) (by assumption) ?_
  simp only [Act.put, List.setIfInBounds_toArray, List.set_cons_zero, List.set_cons_succ]
  refine take_val (i := 7) rfl (by kernel_rfl) (by kernel_rfl) (by kernel_rfl) (fun _ _ _ h => h) (by rfl) (by intro W1 hw; go_simp; with_reducible rfl) (by assumption) ?_
  simp only [Act.put, List.setIfInBounds_toArray, List.set_cons_zero, List.set_cons_succ]
  refine take_val (i := 8) rfl (by kernel_rfl) (by kernel_rfl) (by kernel_rfl) (fun _ _ _ h => h) (by rfl) (by intro W1 hw; go_simp; with_reducible rfl) (by assumption) ?_
  simp only [Act.put, List.setIfInBounds_toArray, List.set_cons_zero, List.set_cons_succ]
  refine take_val (i := 9) rfl (by kernel_rfl) (by kernel_rfl) (by kernel_rfl) (fun _ _ _ h => h) (by rfl) (by intro W1 hw; go_simp; with_reducible rfl) (by assumption) ?_
  simp only [Act.put, List.setIfInBounds_toArray, List.set_cons_zero, List.set_cons_succ]
  refine take_val (i := 10) (v := (.slice p n cap)) rfl (by kernel_rfl) (by kernel_rfl) (by kernel_rfl) (fun _ _ _ h => h) (by rfl) (by intro W1 hw; have e0 : W1.cell? ⟨rb, 0, none⟩ = some (.slice p n cap) := (hw.cell hlt).trans HR.out.c0; go_simp) (by assumption) ?_
  simp only [Act.put, List.setIfInBounds_toArray, List.set_cons_zero, List.set_cons_succ]
  refine take_val (i := 11) (v := (.int .i64 (n : Int))) rfl (by kernel_rfl) (by kernel_rfl) (by kernel_rfl) (fun _ _ _ h => h) (by rfl) (by intro W1 hw; go_simp) (by assumption) ?_
  simp only [Act.put, List.setIfInBounds_toArray, List.set_cons_zero, List.set_cons_succ]
  refine take_val (i := 12) rfl (by kernel_rfl) (by kernel_rfl) (by kernel_rfl) (fun _ _ _ h => h) (by rfl) (by intro W1 hw; go_simp; with_reducible rfl) (by assumption) ?_
  simp only [Act.put, List.setIfInBounds_toArray, List.set_cons_zero, List.set_cons_succ]
  refine take_val (i := 13) rfl (by kernel_rfl) (by kernel_rfl) (by kernel_rfl) (fun _ _ _ h => h) (by rfl) (by intro W1 hw; go_simp; with_reducible rfl) (by assumption) ?_
  simp only [Act.put, List.setIfInBounds_toArray, List.set_cons_zero, List.set_cons_succ]
  refine take_val (i := 14) rfl (by kernel_rfl) (by kernel_rfl) (by kernel_rfl) (fun _ _ _ h => h) (by rfl) (by intro W1 hw; go_simp; with_reducible rfl) (by assumption) ?_
  simp only [Act.put, List.setIfInBounds_toArray, List.set_cons_zero, List.set_cons_succ]
  refine take_val (i := 15) (v := (.int .i64 off)) rfl (by kernel_rfl) (by kernel_rfl) (by kernel_rfl) (fun _ _ _ h => h) (by rfl) (by intro W1 hw; have e1 : W1.cell? ⟨rb, 1, none⟩ = some (.int .i64 off) := (hw.cell hlt).trans HR.out.c1; go_simp) (by assumption) ?_
  simp only [Act.put, List.setIfInBounds_toArray, List.set_cons_zero, List.set_cons_succ]
  refine take_val (i := 16) (v := (.int .i64 ((n : Int) - off))) rfl (by kernel_rfl) (by kernel_rfl) (by kernel_rfl) (fun _ _ _ h => h) (by rfl) (by intro W1 hw; go_simp) (by assumption) ?_
  simp only [Act.put, List.setIfInBounds_toArray, List.set_cons_zero, List.set_cons_succ]
  refine take_val (i := 17) rfl (by kernel_rfl) (by kernel_rfl) (by kernel_rfl) (fun _ _ _ h => h) (by rfl) (by intro W1 hw; go_simp; with_reducible rfl) (by assumption) ?_
  simp only [Act.put, List.setIfInBounds_toArray, List.set_cons_zero, List.set_cons_succ]
  refine one_val (i := 18) rfl (by kernel_rfl) (by rfl) (by go_simp; exact ⟨rfl, rfl⟩) (((hbel.drew).alloc hbel.drew.size _)) ?_
  simp only [Act.put, List.setIfInBounds_toArray, List.set_cons_zero, List.set_cons_succ]
  generalize hV : (w.drewN nq).drew = V
  have hV1 : V.heap.size = w.heap.size := by rw [← hV]; rfl
  have hV2 : Below w.heap.size w V := by rw [← hV]; exact hbel.drew
  refine one_call (i := 19) rfl (by kernel_rfl) (by rfl) 12 _ (by go_simp; rfl) ?_
  have HC := refuseNeed F k off ((n : Int) - off) w.heap.size (V.alloc (.cells #[.iface 3 (.int .i64 k), .iface 3 (.int .i64 off), .iface 3 (.int .i64 ((n : Int) - off))] 20 (0, 0))) (by show F.told.answers V.tape; rw [hV2.tape]; exact hF) (wf64 _ (by omega) (by omega)) (wf64 _ (by omega) (by omega)) (wf64 _ (by omega) (by omega)) (by rw [← hV1]; exact cell_new rfl) (by rw [← hV1]; exact cell_new rfl) (by rw [← hV1]; exact cell_new rfl)
  refine HC.mono ?_
  clear HC
  rintro e W2 ⟨b, d, rfl, hra, hds, hbs, hb2⟩
  have hb3 : Below w.heap.size w W2 := (hV2.alloc hV2.size _).trans (hb2.mono (hV2.alloc hV2.size _).size)
  refine ⟨_, rfl, hb3, ?_⟩
  simp only [Act.put, List.setIfInBounds_toArray, List.set_cons_zero, List.set_cons_succ]
  refine take_val (i := 20) rfl (by kernel_rfl) (by kernel_rfl) (by kernel_rfl) (fun _ _ _ h => h) (by rfl) (by intro W1 hw; go_simp; with_reducible rfl) (by assumption) ?_
  simp only [Act.put, List.setIfInBounds_toArray, List.set_cons_zero, List.set_cons_succ]
  refine take_val (i := 21) rfl (by kernel_rfl) (by kernel_rfl) (by kernel_rfl) (fun _ _ _ h => h) (by rfl) (by intro W1 hw; go_simp; with_reducible rfl) (by assumption) ?_
  simp only [Act.put, List.setIfInBounds_toArray, List.set_cons_zero, List.set_cons_succ]
  refine wpAnyH_done (by kernel_rfl) ?_ _
  have HB := Lib.hid (show w.heap.size ≤ b ∧ RefAt W2 b bTrunc d ∧ Below w.heap.size w W2 from ⟨Nat.le_trans (hV2.alloc hV2.size _).size hbs, hra, hb3⟩)
  clear hb3 hb2 hbs hra hV2 hHeld hbel hV1
  go_wp2
  go_ret2
  exact ⟨b, d, rfl, HB.out.2.1, hds, HB.out.1, HB.out.2.2⟩
end Go.Proofs.Qxb6614869aFmt
