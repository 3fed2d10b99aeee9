/-
  (*reader).uint16.
-/
import Derived.Test.Qxb6614869aFmtProp
import Derived.Test.Qxb6614869aFmtShelf
namespace Go.Proofs.Qxb6614869aFmt
open Go.RowKit Go.Extern.Stop Go.Stop Go.Extern Go.Kit
set_option linter.unusedVariables false
set_option linter.unusedSimpArgs false

def U16Post (rb db o n cap : Nat) (byt : Nat → Int) (off : Nat) (w : World) (e : Ending) (w' : World) : Prop :=
  w.grownBy w' (some rb) ∧ ∃ v x, e = .returned (.tuple #[.int .u16 v, x]) ∧
    ((off + 2 ≤ n ∧ x = .nilIface ∧ v = byt off * 256 + byt (off + 1) ∧ RS w' rb db o n cap byt (off + 2)) ∨
      (n < off + 2 ∧ RS w' rb db o n cap byt off ∧ ∃ b d, x = .iface 37 (.pointer (some ⟨b, 0, none⟩)) ∧ RefAt w' b bTrunc d ∧ d.size ≤ 1000 ∧ w.heap.size ≤ b))

theorem be16 (x y : Int) (x0 : 0 ≤ x) (x1 : x < 256) (y0 : 0 ≤ y) (y1 : y < 256) : ∃ a b : UInt8, x = (a.toNat : Int) ∧ y = (b.toNat : Int) ∧ ((Lib.beNat [a, b] : Nat) : Int) = x * 256 + y := by
  refine ⟨UInt8.ofNat x.toNat, UInt8.ofNat y.toNat, ?_, ?_, ?_⟩
  · rw [UInt8.toNat_ofNat']; omega
  · rw [UInt8.toNat_ofNat']; omega
  · simp [Lib.beNat, Lib.beFrom]
    omega

set_option maxHeartbeats 1600000 in
set_option maxRecDepth 100000 in
theorem uint16_9 (F : Interp) {rb db o n cap : Nat} {byt : Nat → Int} {off : Nat} {w : World} (hF : F.told.answers w.tape) (hR : RS w rb db o n cap byt off) :
    Calls Tryf.prog 9 #[.pointer (some ⟨rb, 0, none⟩)] w (U16Post rb db o n cap byt off w) := by
  have HC := Lib.hid (bytes10 F 2 hF hR (by omega))
  go_enter Tryf.func9, Tryf.ntmps9
  go_wp2_with fail
  refine Calls.mono HC.out ?_
  rintro e w2 ⟨hg, v, x, rfl, ⟨hle, rfl, ⟨o', ho', rfl⟩, hR2⟩ | ⟨hlt, rfl, hrs, b, d, rfl, hra, hd, hb⟩⟩
  · have eo : o' = o + off := by omega
    subst eo
    obtain ⟨hc, h0, h1⟩ := hR2.dat off (by omega)
    obtain ⟨hc', h0', h1'⟩ := hR2.dat (off + 1) (by omega)
    obtain ⟨a, b, ea, eb, hv⟩ := be16 _ _ h0 h1 h0' h1'
    rw [ea] at hc
    rw [eb, ← Nat.add_assoc] at hc'
    have HC2 := Lib.hid (Tryf.binary_BE_Uint16 db (o + off) 2 (cap - off) a b w2 (by omega) hc hc')
    have HR := Lib.hid hR2
    have HG := Lib.hid hg
    have HV := Lib.hid hv
    clear HC hR2 hg hR hc hc' ea eb hv
    go_wp2_with fail
    refine Calls.mono HC2.out ?_
    rintro e w3 ⟨rfl, hbel⟩
    have HX := Lib.hid (show w.grownBy w3 (some rb) ∧ RS w3 rb db o n cap byt (off + 2) from ⟨HG.out.trans (grown_of_below hbel _), HR.out.kept (grown_of_below hbel none) (by simp) (by simp)⟩)
    clear HC2 hbel HG HR
    go_wp2
    go_ret2
    exact ⟨HX.out.1, _, _, rfl, .inl ⟨hle, rfl, HV.out, HX.out.2⟩⟩
  · have HX := Lib.hid (show w.grownBy w2 (some rb) ∧ RefAt w2 b bTrunc d ∧ RS w2 rb db o n cap byt off from ⟨hg, hra, hrs⟩)
    clear HC hg hra hR hrs
    go_wp2
    go_ret2
    exact ⟨HX.out.1, _, _, rfl, .inr ⟨hlt, HX.out.2.2, b, d, rfl, HX.out.2.1, hd, hb⟩⟩

end Go.Proofs.Qxb6614869aFmt
