/-
  The law where the offset lies in the buffer.
-/
import Derived.Test.Qxb6614869aFmtLaw
namespace Go.Proofs.Qxb6614869aFmt
open Go.RowKit Go.Extern.Stop Go.Stop Go.Extern Go.Kit
set_option linter.unusedVariables false
set_option linter.unusedSimpArgs false

theorem Ety.below {w w' : World} (h : Ety w) (hb : Below w.heap.size w w') : Ety w' := (hb.cell (World.block_lt_of_cell? _ _ h)).trans h

theorem reason_trunc (b : Nat) (d : ByteArray) (w : World) (h : RefAt w b bTrunc d) (hE : Ety w) : Calls Tryf.prog 6 #[.iface 37 (.pointer (some ⟨b, 0, none⟩))] w fun e w' => e = .returned (.string ⟨#[116, 114, 117, 110, 99, 97, 116, 101, 100]⟩) ∧ Below w.heap.size w w' := reason_hit b bTrunc d w h hE
theorem reason_bad (b : Nat) (d : ByteArray) (w : World) (h : RefAt w b bBad d) (hE : Ety w) : Calls Tryf.prog 6 #[.iface 37 (.pointer (some ⟨b, 0, none⟩))] w fun e w' => e = .returned (.string ⟨#[98, 97, 100, 45, 109, 97, 112, 112, 105, 110, 103]⟩) ∧ Below w.heap.size w w' := reason_hit b bBad d w h hE

set_option maxHeartbeats 1600000 in
set_option maxRecDepth 100000 in
theorem law_nil (F : Interp) (cap : Nat) (w : World) (hF : F.told.answers w.tape) (hE : Ety w) : Calls Tryf.prog 3 #[.slice none 0 cap, .int .i64 0] w (LawPost w) := by
  have HC := Lib.hid (bytes4_ok none 0 cap 0 w (by omega))
  have HC2 := Lib.hid (zz5 F (byt := fun _ => 0) (p := none) (n := 0) (cap := cap) (off := 0) hF (.inl ⟨rfl, rfl⟩) (by omega) (by omega))
  have hq := fun W => neq22 W none 0 cap
  have HE := Lib.hid hE
  clear hE
  go_enter Tryf.func3, Tryf.ntmps3
  go_wp2_with fail
  refine Calls.mono HC.out ?_
  rintro e w2 ⟨rfl, rfl⟩
  clear HC
  go_wp2_with fail
  refine Calls.mono HC2.out ?_
  rintro e w3 ⟨hb, m, y, x, rfl, ⟨_, b, d, rfl, hra⟩ | ⟨h1, _⟩⟩
  · have HC3 := Lib.hid (reason_trunc b d w3 hra (HE.out.below hb))
    have HB := Lib.hid hb
    clear HC2 hb hra
    go_wp2_with fail
    refine Calls.mono HC3.out ?_
    rintro e w4 ⟨rfl, hb4⟩
    have HB4 := Lib.hid hb4
    clear HC3 hb4
    go_wp2
    go_ret
    exact ⟨rfl, HB.out.trans (HB4.out.mono HB.out.size)⟩
  · omega

end Go.Proofs.Qxb6614869aFmt
