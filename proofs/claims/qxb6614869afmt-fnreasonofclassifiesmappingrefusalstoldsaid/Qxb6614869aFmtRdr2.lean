/-
  (*reader).bytes where there is enough.
-/
import Derived.Test.Qxb6614869aFmtRdr
namespace Go.Proofs.Qxb6614869aFmt
open Go.RowKit Go.Extern.Stop Go.Stop Go.Extern Go.Kit
set_option linter.unusedVariables false
set_option linter.unusedSimpArgs false

theorem run_sub (db o n cap off k : Nat) (h1 : off + k ≤ n) (h2 : n ≤ cap) : ∃ o', (k = 0 ∨ o' = o + off) ∧ ∀ W : World,
    (Instr.slice 22 (.slice (some ⟨db, o, none⟩) n cap) (some (.int .i64 (off : Int))) (some (.int .i64 ((off : Int) + (k : Int)))) none).run Tryf.prog W = .ok (.slice (some ⟨db, o', none⟩) k (cap - off)) W := by
  have hz : ∀ W : World, (sizeOf (Tryf.prog.elem 22)).run Tryf.prog W = .ok 1 W := fun W => by kernel_rfl
  have hr := fun W => run_slice_lh (P := Tryf.prog) (t := 22) (w := W) (a := some ⟨db, o, none⟩) (len := n) (cap := cap) (ht := by simp [Program.elem, Tryf.underlying22]) .i64 .i64 (off : Int) ((off : Int) + (k : Int)) (by omega) (by omega) (by omega)
  have e1 : ((off : Int) + (k : Int)).toNat = off + k := by omega
  by_cases hc : cap = off
  · refine ⟨o, .inl (by omega), fun W => ?_⟩
    rw [hr W, hz W]
    simp [sliced, Result.andThen, hc, e1]
  · refine ⟨o + off, .inr rfl, fun W => ?_⟩
    rw [hr W, hz W]
    simp [sliced, Result.andThen, hc, e1, Addr.add]

theorem grown_setCell (w : World) (a : Addr) (u : Value) : w.grownBy (w.setCell a u) (some a.block) :=
  ⟨rfl, rfl, rfl, by simp, fun k _ hk => heap_setCell_other w a k u (fun e => hk (by rw [e]))⟩

theorem RdrAt.set {w : World} {rb : Nat} {sl : Value} {off : Int} (h : RdrAt w rb sl off) (x : Int) : RdrAt (w.setCell ⟨rb, 1, none⟩ (.int .i64 x)) rb sl x := by
  unfold RdrAt at h ⊢
  rw [heap_setCell_same w rb 1 _ _ _ h]
  rfl

theorem grown_drewN (w : World) (q : Nat) (r : Option Nat) : w.grownBy (w.drewN q) r := ⟨rfl, rfl, rfl, Nat.le_refl _, fun _ _ _ => rfl⟩

/-- bytes' answer where there is enough: a slice of the same block; the reader stands k further -/
def OkPost (db o n cap off k rb : Nat) (w : World) (e : Ending) (w' : World) : Prop :=
  ∃ o', (k = 0 ∨ o' = o + off) ∧ e = .returned (.tuple #[.slice (some ⟨db, o', none⟩) k (cap - off), .nilIface]) ∧ RdrAt w' rb (.slice (some ⟨db, o, none⟩) n cap) ((off + k : Nat) : Int) ∧ w.grownBy w' (some rb)

set_option maxHeartbeats 1600000 in
set_option maxRecDepth 100000 in
theorem bytes_ok (rb db o n cap off k : Nat) (w : World) (hR : RdrAt w rb (.slice (some ⟨db, o, none⟩) n cap) off) (h1 : off + k ≤ n) (h2 : n ≤ cap) (hn : n ≤ 1048576) :
    Calls Tryf.prog 10 #[.pointer (some ⟨rb, 0, none⟩), .int .i64 (k : Int)] w (OkPost db o n cap off k rb w) := by
  have c0 := hR.c0
  have c1 := hR.c1
  have f1 := hR.f1
  have hlt := hR.lt
  have g1 : decide ((k : Int) < 0) = false := decide_eq_false (by omega)
  have g2 : decide ((n : Int) - (off : Int) < (k : Int)) = false := decide_eq_false (by omega)
  have hwr := wrap64 ((n : Int) - off) (by omega) (by omega)
  have hwr2 := wrap64 ((off : Int) + k) (by omega) (by omega)
  obtain ⟨o', ho', hsl⟩ := run_sub db o n cap off k h1 h2
  have HR := Lib.hid hR
  clear hR
  go_enter Tryf.func10, Tryf.ntmps10
  go_wp2_with fail
  go_quiet (fail)
  go_wp2_with fail
  go_quiet (fail)
  go_wp2
  go_ret2
  refine ⟨o', ho', rfl, ?_, ?_⟩
  · rw [Int.natCast_add]
    refine RdrAt.set (off := (off : Int)) ?_ _
    exact HR.out
  · refine World.grownBy.trans (grown_drewN w _ _) (grown_setCell _ ⟨rb, 1, none⟩ _)

end Go.Proofs.Qxb6614869aFmt
