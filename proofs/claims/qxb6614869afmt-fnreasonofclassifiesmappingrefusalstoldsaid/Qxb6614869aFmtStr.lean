/-
  string(b); (*reader).string, (*reader).expect.
-/
import Derived.Test.Qxb6614869aFmtRs
import Derived.Laws.BytesString
import Derived.Laws.Cells
namespace Go.Proofs.Qxb6614869aFmt
open Go.RowKit Go.Extern.Stop Go.Stop Go.Extern Go.Kit
set_option linter.unusedVariables false
set_option linter.unusedSimpArgs false

theorem add_plain (b o j : Nat) : (⟨b, o, none⟩ : Addr).add j = ⟨b, o + j, none⟩ := by
  unfold Addr.add; split <;> simp_all

theorem fold_size (l : List Int) : ∀ r : ByteArray, (l.foldl (fun r n => r.push (UInt8.ofNat n.toNat)) r).size = r.size + l.length := by
  induction l with
  | nil => intro r; rfl
  | cons x l ih =>
    intro r
    simp only [List.foldl_cons, List.length_cons]
    rw [ih, ByteArray.size_push]
    omega

theorem run_str (w : World) (b off n cap : Nat) (byt : Nat → Int) (h : Dat w b off n byt) : ∃ s : ByteArray, s.size = n ∧ (convert 22 9 (.slice (some ⟨b, off, none⟩) n cap)).run Tryf.prog w = .ok (.string s) w := by
  have hl := run_loadCells_list (P := Tryf.prog) w ⟨b, off, none⟩ (((List.range n).map byt).map (Value.int .u8)) (by
    intro j v hj
    simp only [List.map_map, List.getElem?_map] at hj
    by_cases hjn : j < n
    · rw [List.getElem?_range hjn] at hj
      cases hj
      rw [add_plain]
      exact (h j hjn).1
    · rw [List.getElem?_eq_none (by simp; omega)] at hj
      cases hj)
  have e : (((List.range n).map byt).map (Value.int .u8)).length = n := by simp
  rw [e] at hl
  refine ⟨((List.range n).map byt).foldl (fun r n => r.push (UInt8.ofNat n.toNat)) ByteArray.empty, ?_, ?_⟩
  · rw [fold_size]; simp
  · rw [run_convert_bytes_string w 22 9 5 (some ⟨b, off, none⟩) n cap Tryf.underlying22 Tryf.underlying5 Tryf.underlying9, run_bytesToString w ⟨b, off, none⟩ n cap _ hl]

theorem Dat.sub {w : World} {db o n : Nat} {byt : Nat → Int} (h : Dat w db o n byt) {off k o' : Nat} (hk : off + k ≤ n) (ho : k = 0 ∨ o' = o + off) : Dat w db o' k (fun j => byt (off + j)) := fun j hj => by
  rcases ho with rfl | rfl
  · omega
  · have := h (off + j) (by omega)
    rwa [← Nat.add_assoc] at this

theorem BadV.mono {w1 w w' : World} {x : Value} (h : BadV w w' x) (hs : w1.heap.size ≤ w.heap.size) : BadV w1 w' x := by
  obtain ⟨b, r, d, h1, h2, h3, h4, h5⟩ := h
  exact ⟨b, r, d, h1, h2, h3, h4, Nat.le_trans hs h5⟩

def StPost (rb db o n cap : Nat) (byt : Nat → Int) (off : Nat) (w : World) (e : Ending) (w' : World) : Prop :=
  w.grownBy w' (some rb) ∧ ∃ (s : ByteArray) (x : Value), e = .returned (.tuple #[.string s, x]) ∧ s.size ≤ 255 ∧ ((x = .nilIface ∧ ∃ off', off + 1 ≤ off' ∧ RS w' rb db o n cap byt off') ∨ BadV w w' x)

set_option maxHeartbeats 1600000 in
set_option maxRecDepth 100000 in
theorem string18 (F : Interp) {rb db o n cap : Nat} {byt : Nat → Int} {off : Nat} {w : World} (hF : F.told.answers w.tape) (hR : RS w rb db o n cap byt off) :
    Calls Tryf.prog 18 #[.pointer (some ⟨rb, 0, none⟩)] w (StPost rb db o n cap byt off w) := by
  have HC := Lib.hid (uint8_24 F hF hR)
  have HF := Lib.hid hF
  clear hR hF
  go_enter Tryf.func18, Tryf.ntmps18
  go_wp2_with fail
  refine Calls.mono HC.out ?_
  rintro e w2 ⟨hg, v, x, rfl, v0, v1, ⟨rfl, hR2⟩ | ⟨b, r, d, rfl, hra, hr, hd, hb⟩⟩
  · obtain ⟨k, rfl⟩ : ∃ k : Nat, v = (k : Int) := ⟨v.toNat, by omega⟩
    have HC2 := Lib.hid (bytes10 F k (by rw [hg.tape]; exact HF.out) hR2 (by omega))
    have HG := Lib.hid hg
    have hwr := wrap64 (k : Int) (by omega) (by omega)
    clear HC hR2 hg
    go_wp2_with fail
    refine Calls.mono HC2.out ?_
    rintro e w3 ⟨hg2, v, x, rfl, ⟨hle, rfl, ⟨o', ho', rfl⟩, hR3⟩ | ⟨hlt, rfl, hrs, b, d, rfl, hra, hd, hb⟩⟩
    · obtain ⟨s, hs, hcv⟩ := run_str w3 db o' k (cap - (off + 1)) _ (hR3.dat.sub hle ho')
      have HX := Lib.hid (show w.grownBy w3 (some rb) ∧ RS w3 rb db o n cap byt (off + 1 + k) from ⟨HG.out.trans hg2, hR3⟩)
      have HS := Lib.hid hs
      clear HC2 HG hg2 hR3 hs
      go_wp2
      go_ret2
      exact ⟨HX.out.1, _, _, rfl, by rw [HS.out]; omega, .inl ⟨rfl, _, by omega, HX.out.2⟩⟩
    · have HX := Lib.hid (show w.grownBy w3 (some rb) ∧ RefAt w3 b bTrunc d ∧ w.heap.size ≤ b from ⟨HG.out.trans hg2, hra, Nat.le_trans HG.out.size hb⟩)
      clear HC2 HG hg2 hra hb hrs
      go_wp2
      go_ret2
      exact ⟨HX.out.1, _, _, rfl, by decide, .inr ⟨b, _, d, rfl, HX.out.2.1, by decide, hd, HX.out.2.2⟩⟩
  · have HX := Lib.hid (show w.grownBy w2 (some rb) ∧ RefAt w2 b r d ∧ w.heap.size ≤ b from ⟨hg, hra, hb⟩)
    clear HC hg hra hb
    go_wp2
    go_ret2
    exact ⟨HX.out.1, _, _, rfl, by decide, .inr ⟨b, _, d, rfl, HX.out.2.1, hr, hd, HX.out.2.2⟩⟩

def ExPost (rb db o n cap : Nat) (byt : Nat → Int) (off : Nat) (w : World) (e : Ending) (w' : World) : Prop :=
  w.grownBy w' (some rb) ∧ ∃ x : Value, e = .returned x ∧ ((x = .nilIface ∧ RS w' rb db o n cap byt (off + 1)) ∨ BadV w w' x)

set_option maxHeartbeats 1600000 in
set_option maxRecDepth 100000 in
theorem expect19 (F : Interp) (c : Int) (c0 : 0 ≤ c) (c1 : c < 256) {rb db o n cap : Nat} {byt : Nat → Int} {off : Nat} {w : World} (hF : F.told.answers w.tape) (hR : RS w rb db o n cap byt off) :
    Calls Tryf.prog 19 #[.pointer (some ⟨rb, 0, none⟩), .int .u8 c] w (ExPost rb db o n cap byt off w) := by
  have HC := Lib.hid (uint8_24 F hF hR)
  have HF := Lib.hid hF
  clear hR hF
  go_enter Tryf.func19, Tryf.ntmps19
  go_wp2_with fail
  refine Calls.mono HC.out ?_
  rintro e w2 ⟨hg, v, x, rfl, v0, v1, ⟨rfl, hR2⟩ | ⟨b, r, d, rfl, hra, hr, hd, hb⟩⟩
  · have HG := Lib.hid hg
    have HR := Lib.hid hR2
    have HF2 := Lib.hid (show F.told.answers w2.tape by rw [hg.tape]; exact HF.out)
    clear HC hR2 hg
    by_cases hvc : v = c
    · have g : (v != c) = false := by simp [hvc]
      have HE := Lib.hid hvc
      clear hvc
      go_wp2
      go_ret
      exact ⟨HG.out, _, rfl, .inl ⟨rfl, HR.out⟩⟩
    · have g : (v != c) = true := by simp [hvc]
      have HE := Lib.hid hvc
      clear hvc
      go_wp2_with fail
      have HB := refuseByte F v c w2.heap.size (w2.alloc (.cells #[.iface 5 (.int .u8 v), .iface 5 (.int .u8 c)] 20 (0, 0))) HF2.out v0 v1 c0 c1 (cell_new rfl) (cell_new rfl)
      refine HB.mono ?_
      clear HB
      rintro e w3 ⟨b, d, rfl, hra, hd, hb, hbel⟩
      have HX := Lib.hid (show w.grownBy w3 (some rb) ∧ RefAt w3 b bBad d ∧ w.heap.size ≤ b from ⟨HG.out.trans ((World.grownBy_alloc _ _ _).trans (grown_of_below hbel _)), hra, by
        have h1 := HG.out.size
        have h2 : w2.heap.size ≤ (w2.alloc (.cells #[.iface 5 (.int .u8 v), .iface 5 (.int .u8 c)] 20 (0, 0))).heap.size := (World.grownBy_alloc w2 _ none).size
        omega⟩)
      clear hra hb hbel HG HR HF2
      go_wp2
      go_ret
      exact ⟨HX.out.1, _, rfl, .inr ⟨b, _, d, rfl, HX.out.2.1, by decide, hd, HX.out.2.2⟩⟩
  · have HX := Lib.hid (show w.grownBy w2 (some rb) ∧ RefAt w2 b r d ∧ w.heap.size ≤ b from ⟨hg, hra, hb⟩)
    clear HC hg hra hb
    go_wp2
    go_ret
    exact ⟨HX.out.1, _, rfl, .inr ⟨b, _, d, rfl, HX.out.2.1, hr, hd, HX.out.2.2⟩⟩

end Go.Proofs.Qxb6614869aFmt
