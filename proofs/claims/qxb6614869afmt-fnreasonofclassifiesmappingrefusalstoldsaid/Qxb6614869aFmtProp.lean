/-
  (*reader).property.
-/
import Derived.Test.Qxb6614869aFmtStr
import Derived.Maps.Range
import Derived.Laws.ResultCell
import Derived.Deep.AppendLies
import Derived.Deep.MidRow
namespace Go.Proofs.Qxb6614869aFmt
open Go.RowKit Go.Extern.Stop Go.Stop Go.Extern Go.Kit
set_option linter.unusedVariables false
set_option linter.unusedSimpArgs false

/-- a Property at block pb -/
def PB (w : World) (pb : Nat) (a b : ByteArray) : Prop := w.heap[pb]? = some (.cells #[.string a, .string b] 49 (0, 0))
theorem PB.c0 {w : World} {pb : Nat} {a b : ByteArray} (h : PB w pb a b) : w.cell? ⟨pb, 0, none⟩ = some (.string a) := by
  simp [World.cell?, PB] at h ⊢; simp [h]
theorem PB.c1 {w : World} {pb : Nat} {a b : ByteArray} (h : PB w pb a b) : w.cell? ⟨pb, 1, none⟩ = some (.string b) := by
  simp [World.cell?, PB] at h ⊢; simp [h]
theorem PB.f0 {w : World} {pb : Nat} {a b : ByteArray} (h : PB w pb a b) : w.frozen? ⟨pb, 0, none⟩ = false := by
  simp [World.frozen?, PB] at h ⊢; simp [h]
theorem PB.f1 {w : World} {pb : Nat} {a b : ByteArray} (h : PB w pb a b) : w.frozen? ⟨pb, 1, none⟩ = false := by
  simp [World.frozen?, PB] at h ⊢; simp [h]
theorem PB.lt {w : World} {pb : Nat} {a b : ByteArray} (h : PB w pb a b) : pb < w.heap.size := (Array.getElem?_eq_some_iff.1 h).1
theorem PB.kept {w w' : World} {pb : Nat} {a b : ByteArray} {q : Option Nat} (h : PB w pb a b) (hg : w.grownBy w' q) (hne : some pb ≠ q) : PB w' pb a b :=
  (hg.block pb h.lt hne).trans h

theorem PB.load {w : World} {pb : Nat} {a b : ByteArray} (h : PB w pb a b) : (loadVar 49 ⟨pb, 0, none⟩).run Tryf.prog w = .ok (.agg #[.string a, .string b]) w := by
  have hr : w.rangeAt pb 0 [.string a, .string b] := by
    intro j v hj
    match j, hj with
    | 0, hj => simp at hj; subst hj; simpa using h.c0
    | 1, hj => simp at hj; subst hj; simpa using h.c1
    | j + 2, hj => simp at hj
  exact run_loadVar_mid (P := Tryf.prog) w pb 0 49 [.string a, .string b] _ hr Tryf.underlying49 rfl (by kernel_rfl)

theorem PB.set {w : World} {pb : Nat} {a b : ByteArray} (h : PB w pb a b) (a' b' : ByteArray) : PB ((w.setCell ⟨pb, 0, none⟩ (.string a')).setCell ⟨pb, 1, none⟩ (.string b')) pb a' b' := by
  unfold PB at h ⊢
  rw [heap_setCell_same _ pb 1 _ _ _ (heap_setCell_same w pb 0 _ _ _ h)]
  rfl

theorem grown_set2 (w : World) (pb : Nat) (x y : Value) : w.grownBy ((w.setCell ⟨pb, 0, none⟩ x).setCell ⟨pb, 1, none⟩ y) (some pb) :=
  (grown_setCell w ⟨pb, 0, none⟩ x).trans (grown_setCell _ ⟨pb, 1, none⟩ y)

def PrPost (rb db o n cap : Nat) (byt : Nat → Int) (off : Nat) (w : World) (e : Ending) (w' : World) : Prop :=
  w.grownBy w' (some rb) ∧ ∃ (a b : ByteArray) (x : Value), e = .returned (.tuple #[.agg #[.string a, .string b], x]) ∧ a.size ≤ 255 ∧ b.size ≤ 255 ∧ ((x = .nilIface ∧ ∃ off', off + 4 ≤ off' ∧ RS w' rb db o n cap byt off') ∨ BadV w w' x)

set_option maxHeartbeats 1600000 in
set_option maxRecDepth 100000 in
theorem property11 (F : Interp) {rb db o n cap : Nat} {byt : Nat → Int} {off : Nat} {w : World} (hF : F.told.answers w.tape) (hR : RS w rb db o n cap byt off) :
    Calls Tryf.prog 11 #[.pointer (some ⟨rb, 0, none⟩)] w (PrPost rb db o n cap byt off w) := by
  have HF := Lib.hid hF
  have HR := Lib.hid hR
  have hlt := hR.rdr.lt
  have hdl := hR.dlt
  have hne : w.heap.size ≠ rb := by omega
  clear hR hF
  go_enter Tryf.func11, Tryf.ntmps11
  go_wp2_with fail
  generalize hW : w.alloc _ = W
  have hg1 : w.grownBy W (some rb) := by rw [← hW]; exact World.grownBy_alloc _ _ _
  have hg0 : w.grownBy W none := by rw [← hW]; exact World.grownBy_alloc _ _ _
  have hp1 : PB W w.heap.size ⟨#[]⟩ ⟨#[]⟩ := by rw [← hW]; exact (MapKept.heap_alloc w _).1
  have HC := Lib.hid (string18 F (w := W) (by rw [hg1.tape]; exact HF.out) (HR.out.kept hg0 (by simp) (by simp)))
  clear hW hg0
  refine Calls.mono HC.out ?_
  rintro e w2 ⟨hg, s, x, rfl, hs, ⟨rfl, off2, ho2, hR2⟩ | ⟨b, r, d, rfl, hra, hr, hd, hb⟩⟩
  · have hp := hp1.kept hg (by simpa using hne)
    have hgw := hg1.trans hg
    have HG2 := Lib.hid hgw
    have HP2 := Lib.hid hp
    have HC2 := Lib.hid (expect19 F 61 (by decide) (by decide) (w := w2) (by rw [hgw.tape]; exact HF.out) hR2)
    clear HC HR hg1 hp1 hg hR2 hp hgw
    go_wp2_with fail
    refine Calls.mono HC2.out ?_
    rintro e w3 ⟨hg, x, rfl, ⟨rfl, hR3⟩ | ⟨b, r, d, rfl, hra, hr, hd, hb⟩⟩
    · have hp := HP2.out.kept hg (by simpa using hne)
      have hgw := HG2.out.trans hg
      have HG3 := Lib.hid hgw
      have HP3 := Lib.hid hp
      have HC3 := Lib.hid (string18 F (w := w3) (by rw [hgw.tape]; exact HF.out) hR3)
      clear HC2 HG2 HP2 hg hR3 hp hgw
      go_wp2_with fail
      refine Calls.mono HC3.out ?_
      rintro e w4 ⟨hg, s2, x, rfl, hs2, ⟨rfl, off4, ho4, hR4⟩ | ⟨b, r, d, rfl, hra, hr, hd, hb⟩⟩
      · have hp := HP3.out.kept hg (by simpa using hne)
        have hgw := HG3.out.trans hg
        have HG4 := Lib.hid hgw
        have HP4 := Lib.hid hp
        have HC4 := Lib.hid (expect19 F 59 (by decide) (by decide) (w := w4) (by rw [hgw.tape]; exact HF.out) hR4)
        clear HC3 HG3 HP3 hg hR4 hp hgw
        go_wp2_with fail
        refine Calls.mono HC4.out ?_
        rintro e w5 ⟨hg, x, rfl, ⟨rfl, hR5⟩ | ⟨b, r, d, rfl, hra, hr, hd, hb⟩⟩
        · have hp := HP4.out.kept hg (by simpa using hne)
          have hgw := HG4.out.trans hg
          have HX := Lib.hid (show w.grownBy w5 (some rb) ∧ PB w5 w.heap.size ⟨#[]⟩ ⟨#[]⟩ ∧ RS w5 rb db o n cap byt (off4 + 1) from ⟨hgw, hp, hR5⟩)
          have c0 := hp.c0
          have c1 := hp.c1
          have f0 := hp.f0
          have f1 := hp.f1
          clear HC4 HG4 HP4 hg hR5 hp hgw
          go_wp2
          (try simp only [Exit.inBlock, Exit.then])
          have HL := Lib.hid (HX.out.2.1.set s s2)
          refine bodyPost_ret (v := .tuple #[.agg #[.string s, .string s2], .nilIface]) ?_ rfl ?_
          · rw [results_cell_tmp rfl]; simp [asAddr, Result.andThen, HL.out.load]
          · exact ⟨HX.out.1.andThen (grown_set2 _ _ _ _) (fun j hj => by cases hj; exact .inl (Nat.le_refl _)), _, _, _, rfl, hs, hs2, .inl ⟨rfl, off4 + 1, by omega, HX.out.2.2.kept (grown_set2 _ _ _ _) (by simp; omega) (by simpa using Ne.symm hne)⟩⟩
        · have hp := HP4.out.kept hg (by simpa using hne)
          have hgw := HG4.out.trans hg
          have hbw : w.heap.size ≤ b := Nat.le_trans HG4.out.size hb
          have hbn : b ≠ w.heap.size := by have := HP4.out.lt; omega
          have HX := Lib.hid (show w.grownBy w5 (some rb) ∧ RefAt w5 b r d ∧ w.heap.size ≤ b ∧ PB w5 w.heap.size ⟨#[]⟩ ⟨#[]⟩ ∧ b ≠ w.heap.size from ⟨hgw, hra, hbw, hp, hbn⟩)
          have c0 := hp.c0
          have c1 := hp.c1
          have f0 := hp.f0
          have f1 := hp.f1
          clear HC4 HG4 HP4 hg hb hgw hra hbw hp hbn
          go_wp2
          (try simp only [Exit.inBlock, Exit.then])
          have HL := Lib.hid (HX.out.2.2.2.1.set ⟨#[]⟩ ⟨#[]⟩)
          refine bodyPost_ret (v := .tuple #[.agg #[.string ⟨#[]⟩, .string ⟨#[]⟩], .iface 37 (.pointer (some ⟨b, 0, none⟩))]) ?_ rfl ?_
          · rw [results_cell_tmp rfl]; simp [asAddr, Result.andThen, HL.out.load]
          · exact ⟨HX.out.1.andThen (grown_set2 _ _ _ _) (fun j hj => by cases hj; exact .inl (Nat.le_refl _)), _, _, _, rfl, by decide, by decide, .inr ⟨b, r, d, rfl, HX.out.2.1.kept (grown_set2 _ _ _ _) (by simpa using HX.out.2.2.2.2), hr, hd, HX.out.2.2.1⟩⟩
      · have hp := HP3.out.kept hg (by simpa using hne)
        have hgw := HG3.out.trans hg
        have hbw : w.heap.size ≤ b := Nat.le_trans HG3.out.size hb
        have hbn : b ≠ w.heap.size := by have := HP3.out.lt; omega
        have HX := Lib.hid (show w.grownBy w4 (some rb) ∧ RefAt w4 b r d ∧ w.heap.size ≤ b ∧ PB w4 w.heap.size ⟨#[]⟩ ⟨#[]⟩ ∧ b ≠ w.heap.size from ⟨hgw, hra, hbw, hp, hbn⟩)
        have c0 := hp.c0
        have c1 := hp.c1
        have f0 := hp.f0
        have f1 := hp.f1
        clear HC3 HG3 HP3 hg hb hgw hra hbw hp hbn
        go_wp2
        (try simp only [Exit.inBlock, Exit.then])
        have HL := Lib.hid (HX.out.2.2.2.1.set ⟨#[]⟩ ⟨#[]⟩)
        refine bodyPost_ret (v := .tuple #[.agg #[.string ⟨#[]⟩, .string ⟨#[]⟩], .iface 37 (.pointer (some ⟨b, 0, none⟩))]) ?_ rfl ?_
        · rw [results_cell_tmp rfl]; simp [asAddr, Result.andThen, HL.out.load]
        · exact ⟨HX.out.1.andThen (grown_set2 _ _ _ _) (fun j hj => by cases hj; exact .inl (Nat.le_refl _)), _, _, _, rfl, by decide, by decide, .inr ⟨b, r, d, rfl, HX.out.2.1.kept (grown_set2 _ _ _ _) (by simpa using HX.out.2.2.2.2), hr, hd, HX.out.2.2.1⟩⟩
    · have hp := HP2.out.kept hg (by simpa using hne)
      have hgw := HG2.out.trans hg
      have hbw : w.heap.size ≤ b := Nat.le_trans HG2.out.size hb
      have hbn : b ≠ w.heap.size := by have := HP2.out.lt; omega
      have HX := Lib.hid (show w.grownBy w3 (some rb) ∧ RefAt w3 b r d ∧ w.heap.size ≤ b ∧ PB w3 w.heap.size ⟨#[]⟩ ⟨#[]⟩ ∧ b ≠ w.heap.size from ⟨hgw, hra, hbw, hp, hbn⟩)
      have c0 := hp.c0
      have c1 := hp.c1
      have f0 := hp.f0
      have f1 := hp.f1
      clear HC2 HG2 HP2 hg hb hgw hra hbw hp hbn
      go_wp2
      (try simp only [Exit.inBlock, Exit.then])
      have HL := Lib.hid (HX.out.2.2.2.1.set ⟨#[]⟩ ⟨#[]⟩)
      refine bodyPost_ret (v := .tuple #[.agg #[.string ⟨#[]⟩, .string ⟨#[]⟩], .iface 37 (.pointer (some ⟨b, 0, none⟩))]) ?_ rfl ?_
      · rw [results_cell_tmp rfl]; simp [asAddr, Result.andThen, HL.out.load]
      · exact ⟨HX.out.1.andThen (grown_set2 _ _ _ _) (fun j hj => by cases hj; exact .inl (Nat.le_refl _)), _, _, _, rfl, by decide, by decide, .inr ⟨b, r, d, rfl, HX.out.2.1.kept (grown_set2 _ _ _ _) (by simpa using HX.out.2.2.2.2), hr, hd, HX.out.2.2.1⟩⟩
  · have hp := hp1.kept hg (by simpa using hne)
    have hgw := hg1.trans hg
    have hbw : w.heap.size ≤ b := Nat.le_trans hg1.size hb
    have hbn : b ≠ w.heap.size := by have := hp1.lt; omega
    have HX := Lib.hid (show w.grownBy w2 (some rb) ∧ RefAt w2 b r d ∧ w.heap.size ≤ b ∧ PB w2 w.heap.size ⟨#[]⟩ ⟨#[]⟩ ∧ b ≠ w.heap.size from ⟨hgw, hra, hbw, hp, hbn⟩)
    have c0 := hp.c0
    have c1 := hp.c1
    have f0 := hp.f0
    have f1 := hp.f1
    clear HC hg1 hp1 hg hb hgw hra hbw hp hbn
    go_wp2
    (try simp only [Exit.inBlock, Exit.then])
    have HL := Lib.hid (HX.out.2.2.2.1.set ⟨#[]⟩ ⟨#[]⟩)
    refine bodyPost_ret (v := .tuple #[.agg #[.string ⟨#[]⟩, .string ⟨#[]⟩], .iface 37 (.pointer (some ⟨b, 0, none⟩))]) ?_ rfl ?_
    · rw [results_cell_tmp rfl]; simp [asAddr, Result.andThen, HL.out.load]
    · exact ⟨HX.out.1.andThen (grown_set2 _ _ _ _) (fun j hj => by cases hj; exact .inl (Nat.le_refl _)), _, _, _, rfl, by decide, by decide, .inr ⟨b, r, d, rfl, HX.out.2.1.kept (grown_set2 _ _ _ _) (by simpa using HX.out.2.2.2.2), hr, hd, HX.out.2.2.1⟩⟩

end Go.Proofs.Qxb6614869aFmt
