/-
  The reader's state; bytes, uint8 by one contract each.
-/
import Derived.Test.Qxb6614869aFmtRdr2
import Derived.Deep.AppendLies
namespace Go.Proofs.Qxb6614869aFmt
open Go.RowKit Go.Extern.Stop Go.Stop Go.Extern Go.Kit
set_option linter.unusedVariables false
set_option linter.unusedSimpArgs false

/-- n bytes in a row from ⟨db, o⟩ -/
def Dat (w : World) (db o n : Nat) (byt : Nat → Int) : Prop := ∀ j, j < n → w.cell? ⟨db, o + j, none⟩ = some (.int .u8 (byt j)) ∧ 0 ≤ byt j ∧ byt j < 256

theorem Dat.kept {w w' : World} {db o n : Nat} {byt : Nat → Int} {r : Option Nat} (h : Dat w db o n byt) (hg : w.grownBy w' r) (hne : some db ≠ r) : Dat w' db o n byt := fun j hj => by
  obtain ⟨h1, h2⟩ := h j hj
  exact ⟨(World.grownBy.cell_far hg ⟨db, o + j, none⟩ (World.block_lt_of_cell? _ _ h1) hne).trans h1, h2⟩

structure RS (w : World) (rb db o n cap : Nat) (byt : Nat → Int) (off : Nat) : Prop where
  rdr : RdrAt w rb (.slice (some ⟨db, o, none⟩) n cap) (off : Int)
  dat : Dat w db o n byt
  ne : db ≠ rb
  le : off ≤ n
  cap : n ≤ cap
  small : n ≤ 1048576
  dlt : db < w.heap.size

theorem RS.kept {w w' : World} {rb db o n cap : Nat} {byt : Nat → Int} {off : Nat} {r : Option Nat} (h : RS w rb db o n cap byt off) (hg : w.grownBy w' r) (h1 : some db ≠ r) (h2 : some rb ≠ r) : RS w' rb db o n cap byt off :=
  ⟨(hg.block rb h.rdr.lt h2).trans h.rdr, h.dat.kept hg h1, h.ne, h.le, h.cap, h.small, Nat.lt_of_lt_of_le h.dlt hg.size⟩

theorem RefAt.lt {w : World} {b : Nat} {r d : ByteArray} (h : RefAt w b r d) : b < w.heap.size := (Array.getElem?_eq_some_iff.1 h).1

theorem RefAt.kept {w w' : World} {b : Nat} {r d : ByteArray} {q : Option Nat} (h : RefAt w b r d) (hg : w.grownBy w' q) (hne : some b ≠ q) : RefAt w' b r d :=
  (hg.block b h.lt hne).trans h

theorem grown_of_below {w w' : World} (h : Below w.heap.size w w') (r : Option Nat) : w.grownBy w' r := ⟨h.os, h.tape, h.output, h.size, fun i hi _ => h.block i hi⟩

/-- an error in the answer -/
def BadV (w w' : World) (x : Value) : Prop := ∃ b r d, x = .iface 37 (.pointer (some ⟨b, 0, none⟩)) ∧ RefAt w' b r d ∧ r.size ≤ 100 ∧ d.size ≤ 1000 ∧ w.heap.size ≤ b

def ByPost (rb db o n cap : Nat) (byt : Nat → Int) (off k : Nat) (w : World) (e : Ending) (w' : World) : Prop :=
  w.grownBy w' (some rb) ∧ ∃ v x, e = .returned (.tuple #[v, x]) ∧
    ((off + k ≤ n ∧ x = .nilIface ∧ (∃ o', (k = 0 ∨ o' = o + off) ∧ v = .slice (some ⟨db, o', none⟩) k (cap - off)) ∧ RS w' rb db o n cap byt (off + k)) ∨
      (n < off + k ∧ v = .slice none 0 0 ∧ RS w' rb db o n cap byt off ∧ ∃ b d, x = .iface 37 (.pointer (some ⟨b, 0, none⟩)) ∧ RefAt w' b bTrunc d ∧ d.size ≤ 1000 ∧ w.heap.size ≤ b))

theorem bytes10 (F : Interp) {rb db o n cap : Nat} {byt : Nat → Int} {off : Nat} (k : Nat) {w : World} (hF : F.told.answers w.tape) (hR : RS w rb db o n cap byt off) (hk : k ≤ 65535) :
    Calls Tryf.prog 10 #[.pointer (some ⟨rb, 0, none⟩), .int .i64 (k : Int)] w (ByPost rb db o n cap byt off k w) := by
  have h1 := hR.le
  have h2 := hR.small
  by_cases h : off + k ≤ n
  · refine (bytes_ok rb db o n cap off k w hR.rdr h hR.cap hR.small).mono ?_
    rintro e w' ⟨o', ho', rfl, hr, hg⟩
    exact ⟨hg, _, _, rfl, .inl ⟨h, rfl, ⟨o', ho', rfl⟩, ⟨hr, hR.dat.kept hg (by simpa using hR.ne), hR.ne, h, hR.cap, hR.small, Nat.lt_of_lt_of_le hR.dlt hg.size⟩⟩⟩
  · refine (bytes_short F rb _ n cap off k w hF hR.rdr (by omega) (by omega) hR.small (by omega) (by omega) (by omega)).mono ?_
    rintro e w' ⟨b, d, rfl, hra, hd, hb, hbel⟩
    exact ⟨grown_of_below hbel _, _, _, rfl, .inr ⟨by omega, rfl, hR.kept (grown_of_below hbel none) (by simp) (by simp), b, d, rfl, hra, hd, hb⟩⟩

def U8Post (rb db o n cap : Nat) (byt : Nat → Int) (off : Nat) (w : World) (e : Ending) (w' : World) : Prop :=
  w.grownBy w' (some rb) ∧ ∃ v x, e = .returned (.tuple #[.int .u8 v, x]) ∧ 0 ≤ v ∧ v < 256 ∧ ((x = .nilIface ∧ RS w' rb db o n cap byt (off + 1)) ∨ BadV w w' x)

set_option maxHeartbeats 1600000 in
set_option maxRecDepth 100000 in
theorem uint8_24 (F : Interp) {rb db o n cap : Nat} {byt : Nat → Int} {off : Nat} {w : World} (hF : F.told.answers w.tape) (hR : RS w rb db o n cap byt off) :
    Calls Tryf.prog 24 #[.pointer (some ⟨rb, 0, none⟩)] w (U8Post rb db o n cap byt off w) := by
  have HC := Lib.hid (bytes10 F 1 hF hR (by omega))
  go_enter Tryf.func24, Tryf.ntmps24
  go_wp2_with fail
  refine Calls.mono HC.out ?_
  rintro e w2 ⟨hg, v, x, rfl, ⟨hle, rfl, ⟨o', ho', rfl⟩, hR2⟩ | ⟨hlt, rfl, hrs, b, d, rfl, hra, hd, hb⟩⟩
  · have hc := hR2.dat off (by omega)
    have eo : o' = o + off := by omega
    subst eo
    obtain ⟨hc, h0, h1⟩ := hc
    have HR := Lib.hid hR2
    have HG := Lib.hid hg
    clear HC hR2 hg hR
    go_wp2
    go_ret2
    exact ⟨HG.out, _, _, rfl, h0, h1, .inl ⟨rfl, HR.out⟩⟩
  · have HX := Lib.hid (show w.grownBy w2 (some rb) ∧ RefAt w2 b bTrunc d from ⟨hg, hra⟩)
    clear HC hg hra hR hrs
    go_wp2
    go_ret2
    exact ⟨HX.out.1, _, _, rfl, by decide, by decide, .inr ⟨b, _, d, rfl, HX.out.2, by decide, hd, hb⟩⟩

end Go.Proofs.Qxb6614869aFmt
