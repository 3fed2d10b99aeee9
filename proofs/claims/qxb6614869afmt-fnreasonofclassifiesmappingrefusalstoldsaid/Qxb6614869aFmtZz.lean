/-
  mapping where fewer than two bytes are left (a nil slice too); ZZMapping; ReasonOf.
-/
import Derived.Test.Qxb6614869aFmtMapping
import Derived.Test.Qxb6614869aFmtAs
namespace Go.Proofs.Qxb6614869aFmt
open Go.RowKit Go.Extern.Stop Go.Stop Go.Extern Go.Kit
set_option linter.unusedVariables false
set_option linter.unusedSimpArgs false

def TwoShort (w : World) (e : Ending) (w' : World) : Prop :=
  ∃ v b d, e = .returned (.tuple #[v, .iface 37 (.pointer (some ⟨b, 0, none⟩))]) ∧ RefAt w' b bTrunc d ∧ d.size ≤ 1000 ∧ Below w.heap.size w w'

set_option maxHeartbeats 1600000 in
set_option maxRecDepth 100000 in
theorem uint16_short (F : Interp) {rb : Nat} {p : Option Addr} {n cap off : Nat} {w : World} (hF : F.told.answers w.tape) (hR : RdrAt w rb (.slice p n cap) (off : Int)) (h1 : off ≤ n) (hn : n ≤ 1048576) (hs : n < off + 2) :
    Calls Tryf.prog 9 #[.pointer (some ⟨rb, 0, none⟩)] w (TwoShort w) := by
  have HC := Lib.hid (bytes_short F rb p n cap off 2 w hF hR (by omega) (by omega) hn (by omega) (by omega) (by omega))
  go_enter Tryf.func9, Tryf.ntmps9
  go_wp2_with fail
  refine Calls.mono HC.out ?_
  rintro e w2 ⟨b, d, rfl, hra, hd, hb, hbel⟩
  have HX := Lib.hid (show Below w.heap.size w w2 ∧ RefAt w2 b bTrunc d from ⟨hbel, hra⟩)
  clear HC hbel hra hR
  go_wp2
  go_ret2
  exact ⟨_, b, d, rfl, HX.out.2, hd, HX.out.1⟩

set_option maxHeartbeats 1600000 in
set_option maxRecDepth 100000 in
theorem mapping_short (F : Interp) (byt : Nat → Int) {rb : Nat} {p : Option Addr} {n cap off : Nat} {w : World} (hF : F.told.answers w.tape) (hR : RdrAt w rb (.slice p n cap) (off : Int)) (h1 : off ≤ n) (hn : n ≤ 1048576) (hs : n < off + 2) :
    Calls Tryf.prog 7 #[.pointer (some ⟨rb, 0, none⟩)] w (MapPost rb (.slice p n cap) n byt off w) := by
  have HC := Lib.hid (uint16_short F hF hR h1 hn hs)
  have HR := Lib.hid hR
  clear hR
  go_enter Tryf.func7, Tryf.ntmps7
  go_wp2_with fail
  refine Calls.mono HC.out ?_
  rintro e w2 ⟨v, b, d, rfl, hra, hd, hbel⟩
  have HX := Lib.hid (show Below w.heap.size w w2 ∧ RefAt w2 b bTrunc d from ⟨hbel, hra⟩)
  clear HC hbel hra
  go_wp2
  go_ret2
  exact ⟨grown_of_below HX.out.1 _, ⟨_, (HX.out.1.block rb HR.out.lt).trans HR.out⟩, _, _, rfl, .inl ⟨.inl hs, b, d, rfl, HX.out.2⟩⟩

/-- the slice that ZZMapping is handed: nil, or n bytes in a row -/
def Buf (w : World) (p : Option Addr) (n cap : Nat) (byt : Nat → Int) : Prop :=
  (p = none ∧ n = 0) ∨ ∃ db o, p = some ⟨db, o, none⟩ ∧ Dat w db o n byt ∧ n ≤ cap ∧ db < w.heap.size

def ZzPost (n : Nat) (byt : Nat → Int) (off : Nat) (w : World) (e : Ending) (w' : World) : Prop :=
  Below w.heap.size w w' ∧ ∃ m y x, e = .returned (.tuple #[m, y, x]) ∧
    (((n < off + 2 ∨ (n : Int) < off + 2 + (byt off * 256 + byt (off + 1))) ∧ ∃ b d, x = .iface 37 (.pointer (some ⟨b, 0, none⟩)) ∧ RefAt w' b bTrunc d) ∨
     (off + 2 ≤ n ∧ (off : Int) + 2 + (byt off * 256 + byt (off + 1)) ≤ n ∧ (x = .nilIface ∨ ∃ b d, x = .iface 37 (.pointer (some ⟨b, 0, none⟩)) ∧ RefAt w' b bBad d)))

theorem mapping_any (F : Interp) {byt : Nat → Int} {rb : Nat} {p : Option Addr} {n cap off : Nat} {w : World} (hF : F.told.answers w.tape) (hR : RdrAt w rb (.slice p n cap) (off : Int)) (hB : Buf w p n cap byt) (hne : ∀ db o, p = some ⟨db, o, none⟩ → db ≠ rb) (h1 : off ≤ n) (hn : n ≤ 1048576) :
    Calls Tryf.prog 7 #[.pointer (some ⟨rb, 0, none⟩)] w (MapPost rb (.slice p n cap) n byt off w) := by
  rcases hB with ⟨rfl, rfl⟩ | ⟨db, o, rfl, hd, hc, hl⟩
  · exact mapping_short F byt hF hR h1 hn (by omega)
  · exact mapping7 F hF ⟨hR, hd, hne db o rfl, h1, hc, hn, hl⟩

set_option maxHeartbeats 1600000 in
set_option maxRecDepth 100000 in
theorem zz5 (F : Interp) {byt : Nat → Int} {p : Option Addr} {n cap off : Nat} {w : World} (hF : F.told.answers w.tape) (hB : Buf w p n cap byt) (h1 : off ≤ n) (hn : n ≤ 1048576) :
    Calls Tryf.prog 5 #[.slice p n cap, .int .i64 (off : Int)] w (ZzPost n byt off w) := by
  have g1 : w.grownBy (w.alloc (.cells #[.slice p n cap, .int .i64 (off : Int)] 34 (0, 0))) none := World.grownBy_alloc _ _ _
  have HC := Lib.hid (mapping_any F (byt := byt) (rb := w.heap.size) (p := p) (n := n) (cap := cap) (off := off) (w := w.alloc (.cells #[.slice p n cap, .int .i64 (off : Int)] 34 (0, 0))) hF (MapKept.heap_alloc w _).1
    (by
      rcases hB with h | ⟨db, o, rfl, hd, hc, hl⟩
      · exact .inl h
      · exact .inr ⟨db, o, rfl, hd.kept g1 (by simp), hc, Nat.lt_of_lt_of_le hl g1.size⟩)
    (by
      rcases hB with ⟨rfl, h⟩ | ⟨db, o, rfl, hd, hc, hl⟩
      · intro db o e; cases e
      · intro db2 o2 e; cases e; omega) h1 hn)
  clear hB
  go_enter Tryf.func5, Tryf.ntmps5
  go_wp2_with fail
  refine Calls.mono HC.out ?_
  rintro e w2 ⟨hg, ⟨y, hy⟩, m, x, rfl, hcase⟩
  have c1 := hy.c1
  have HX := Lib.hid (show Below w.heap.size w w2 from by
    have hgg := g1.andThen (row' := some w.heap.size) hg (fun j hj => by cases hj; exact .inl (Nat.le_refl _))
    exact ⟨hgg.os, hgg.tape, hgg.output, hgg.size, fun i hi => hgg.block i hi (by simp)⟩)
  have HY := Lib.hid hcase
  clear HC hg hy hcase g1
  go_wp2_with fail
  go_quiet (fail)
  go_wp2
  go_ret3
  exact ⟨Below.drewN HX.out _, _, _, _, rfl, HY.out⟩

theorem cell_set_same {w : World} {a : Nat} {old v : Value} (h : w.cell? ⟨a, 0, none⟩ = some old) : (w.setCell ⟨a, 0, none⟩ v).cell? ⟨a, 0, none⟩ = some v := World.cell?_setCell_same _ _ _ h

/-- the laid variable errors.errorType -/
def Ety (w : World) : Prop := w.cell? ⟨0, 0, none⟩ = some (.iface 75 (.agg #[.pointer (some ⟨2, 27, none⟩)]))

set_option maxHeartbeats 1600000 in
set_option maxRecDepth 100000 in
theorem reason_nil (w : World) : Calls Tryf.prog 6 #[.nilIface] w fun e w' => e = .returned (.string ⟨#[]⟩) ∧ Below w.heap.size w w' := by
  have HC := Lib.hid (fun (t : Value) (W : World) => as_nil t W)
  go_enter Tryf.func6, Tryf.ntmps6
  go_wp2_with fail
  refine Calls.mono (HC.out _ _) ?_
  rintro e w2 ⟨rfl, rfl⟩
  clear HC
  go_wp2
  go_ret
  exact ⟨rfl, (Below.refl _ w).alloc (Nat.le_refl _) _⟩

set_option maxHeartbeats 1600000 in
set_option maxRecDepth 100000 in
theorem reason_hit (b : Nat) (r d : ByteArray) (w : World) (h : RefAt w b r d) (hE : Ety w) :
    Calls Tryf.prog 6 #[.iface 37 (.pointer (some ⟨b, 0, none⟩))] w fun e w' => e = .returned (.string r) ∧ Below w.heap.size w w' := by
  have g1 : w.grownBy (w.alloc (.cells #[.pointer none] 37 (0, 0))) none := World.grownBy_alloc _ _ _
  have h0 : 0 < w.heap.size := World.block_lt_of_cell? _ _ hE
  have hE1 : Ety (w.alloc (.cells #[.pointer none] 37 (0, 0))) := (World.grownBy.cell_far g1 ⟨0, 0, none⟩ h0 (by simp)).trans hE
  have hf : (w.alloc (.cells #[.pointer none] 37 (0, 0))).frozen? ⟨w.heap.size, 0, none⟩ = false := by
    unfold World.frozen?
    simp only [(MapKept.heap_alloc w _).1]
    rfl
  have HC := Lib.hid (as_hit ⟨b, 0, none⟩ ⟨w.heap.size, 0, none⟩ (.pointer none) (w.alloc (.cells #[.pointer none] 37 (0, 0))) hE1 (cell_new rfl) hf)
  have HR := Lib.hid h
  have hbl := h.lt
  clear h hE hE1 hf
  go_enter Tryf.func6, Tryf.ntmps6
  go_wp2_with fail
  refine Calls.mono HC.out ?_
  rintro e w2 ⟨rfl, hw2⟩
  have hgg : w.grownBy w2 (some w.heap.size) := by
    rw [hw2]
    refine World.grownBy.andThen (row' := some w.heap.size) ?_ (grown_setCell _ ⟨w.heap.size, 0, none⟩ _) (fun j hj => by cases hj; exact .inl (Nat.le_refl _))
    exact ((((World.grownBy_alloc w _ _).trans (World.grownBy_alloc _ _ _)).trans (World.grownBy_alloc _ _ _)).trans (World.grownBy_alloc _ _ _)).trans (World.grownBy_alloc _ _ _)
  have ct : w2.cell? ⟨w.heap.size, 0, none⟩ = some (.pointer (some ⟨b, 0, none⟩)) := by
    rw [hw2]
    refine cell_set_same (old := .pointer none) ?_
    refine (World.grownBy.cell_far (w := w.alloc (.cells #[.pointer none] 37 (0, 0))) (row := none) ((((World.grownBy_alloc _ _ _).trans (World.grownBy_alloc _ _ _)).trans (World.grownBy_alloc _ _ _)).trans (World.grownBy_alloc _ _ _)) ⟨w.heap.size, 0, none⟩ (by simp) (by simp)).trans (cell_new rfl)
  have hr2 : RefAt w2 b r d := HR.out.kept hgg (by simp; omega)
  have cr : w2.cell? ⟨b, 0, none⟩ = some (.string r) := by simp [World.cell?, RefAt] at hr2 ⊢; simp [hr2]
  have HX := Lib.hid (show Below w.heap.size w w2 from ⟨hgg.os, hgg.tape, hgg.output, hgg.size, fun i hi => hgg.block i hi (by simp; omega)⟩)
  clear hw2 hgg hr2 HC g1
  go_wp2
  go_ret
  exact ⟨rfl, HX.out⟩

end Go.Proofs.Qxb6614869aFmt
