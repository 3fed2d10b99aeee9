/-
  Laid by the shelf's tool at this program: binary.BigEndian.Uint16 by its contract.
-/
import Derived.Shelf.Lay
import Derived.Shelf.LaySoft
import Derived.Ground.MnProg
import Derived.Shelf.Bin.BEUint16
import Derived.Test.Qxb6614869aFmtProg
namespace Go.Proofs.Qxb6614869aFmt
open Go.Shelf
shelf_try shelf_lay LaysBin.n36 Mn 36 at Tryf as Tryf.laysBin36
shelf_try open Go.RowKit in
/-- binary.BigEndian.Uint16: "Uint16 returns the uint16 representation of b[0:2].": THE NUMBER THAT THE FIRST 2 BYTES SPELL, the greatest byte first ('Lib.beNat'). Of what was there nothing has turned (the receiver, an empty struct, is laid in a new block without cells; the statement's order is drawn). (LAID: no walk: one application.) -/
theorem Tryf.binary_BE_Uint16 (g o n c : Nat) (b0 b1 : UInt8) (w : World) (hn : 2 ≤ n) (c0 : w.cell? ⟨g, o, none⟩ = some (.int .u8 b0.toNat)) (c1 : w.cell? ⟨g, o + 1, none⟩ = some (.int .u8 b1.toNat)) :
    Calls Tryf.prog 17 #[.agg #[], .slice (some ⟨g, o, none⟩) n c] w fun e w' => e = .returned (.int .u16 (Lib.beNat [b0, b1])) ∧ Below w.heap.size w w' := Any.binary_BE_Uint16 Tryf.laysBin36 g o n c b0 b1 w hn c0 c1
shelf_tried
end Go.Proofs.Qxb6614869aFmt
