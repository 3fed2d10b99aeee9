/-
  The law at a buffer that is not nil: the copy, then the four ways.
-/
import Derived.Test.Qxb6614869aFmtLaw2
import Derived.Laws.MakeOwn
namespace Go.Proofs.Qxb6614869aFmt
open Go.RowKit Go.Extern.Stop Go.Stop Go.Extern Go.Kit
set_option linter.unusedVariables false
set_option linter.unusedSimpArgs false

theorem make22 (n : Nat) (hn : n ≤ 1048576) (w : World) : ∃ Z : List Value, Z.length = n ∧ (Instr.makeSlice 22 (.int .i64 (n : Int)) (.int .i64 (n : Int))).run Tryf.prog w = .ok (.slice (some ⟨w.heap.size, 0, none⟩) n n) (w.alloc (.cells Z.toArray 5 (0, 0))) := by
  obtain ⟨i, hi, hsz, hby, hz⟩ := info5
  have h := run_make (P := Tryf.prog) w 22 5 i (.int .u8 0) Tryf.underlying22 hi hz .i64 .i64 (n : Int) (n : Int) (by omega) (by omega) (by rw [hby]; omega) (by omega)
  refine ⟨(madeCells (Value.int .u8 0).cells ((n : Int).toNat * i.size)).toList, ?_, ?_⟩
  · rw [Array.length_toList, hsz]; simp [size_madeCells]
  · rw [h]; simp

def cpCells (n : Nat) (byt : Nat → Int) : List Value := (List.range n).map fun j => Value.int .u8 (byt j)
theorem cpCells_get (n : Nat) (byt : Nat → Int) (j : Nat) (v : Value) (h : (cpCells n byt)[j]? = some v) : j < n ∧ v = .int .u8 (byt j) := by
  unfold cpCells at h
  rw [List.getElem?_map] at h
  by_cases hj : j < n
  · rw [List.getElem?_range hj] at h
    cases h
    exact ⟨hj, rfl⟩
  · rw [List.getElem?_eq_none (by simp; omega)] at h
    cases h
theorem cpCells_length (n : Nat) (byt : Nat → Int) : (cpCells n byt).length = n := by simp [cpCells]
theorem cpCells_one (n : Nat) (byt : Nat → Int) : ∀ u ∈ cpCells n byt, u.oneCell' = true := by
  intro u hu
  simp only [cpCells, List.mem_map] at hu
  obtain ⟨_, _, rfl⟩ := hu
  rfl

theorem dat_of_splice {w : World} {g n : Nat} {byt : Nat → Int} {Z : List Value} (hZ : Z.length = n) (hb : ∀ j, j < n → 0 ≤ byt j ∧ byt j < 256) (h : w.heap[g]? = some (.cells (splice Z 0 (cpCells n byt)).toArray 5 (0, 0))) : Dat w g 0 n byt := by
  have e : splice Z 0 (cpCells n byt) = cpCells n byt := by
    unfold splice
    rw [List.take_zero, List.nil_append, List.drop_eq_nil_of_le (by rw [cpCells_length]; omega), List.append_nil]
  rw [e] at h
  intro j hj
  refine ⟨?_, hb j hj⟩
  have hx : (cpCells n byt)[j]? = some (.int .u8 (byt j)) := by unfold cpCells; rw [List.getElem?_map, List.getElem?_range hj]; rfl
  unfold World.cell?
  simp only [h]
  simpa using hx

theorem copy22 (n cap : Nat) (byt : Nat → Int) (ad : Addr) (Z : List Value) (hZ : Z.length = n) (w0 w : World) (hb : Below w0.heap.size w0 w) (g : Nat) (hg : w.heap[g]? = some (.cells Z.toArray 5 (0, 0))) (hB : w0.heap.size ≤ g)
    (hsrc : ∀ j v, (cpCells n byt)[j]? = some v → w.cell? (ad.add j) = some v) :
    ∃ w3, (Builtin.copy_ #[22, 22] 3 #[.slice (some ⟨g, 0, none⟩) n n, .slice (some ad) n cap]).run Tryf.prog w = .ok (.int .i64 (n : Int)) w3 ∧ w3.heap[g]? = some (.cells (splice Z 0 (cpCells n byt)).toArray 5 (0, 0)) ∧ Below w0.heap.size w0 w3 := by
  have hs5 : (Tryf.prog.info? 5).map (·.size) = some 1 := by kernel_rfl
  by_cases h0 : n = 0
  · subst h0
    refine ⟨w, ?_, ?_, hb⟩
    · rw [run_copy_none (P := Tryf.prog) w 22 22 3 5 _ _ 0 0 0 cap Tryf.underlying22 hs5 rfl]
      rfl
    · rw [hg]
      simp [splice, cpCells]
  · have hrun := run_copy_row (P := Tryf.prog) w 22 22 3 5 g 0 n n ad n cap Z.toArray 5 (cpCells n byt) Tryf.underlying22 hs5 hg (by rw [cpCells_length]; exact (Nat.min_self n).symm) hsrc (by rw [cpCells_length, List.size_toArray, hZ]; omega) (cpCells_one n byt)
    refine ⟨w.setRow g (splice Z 0 (cpCells n byt)).toArray, ?_, setRow_heap w g _ _ 5 _ hg, below_setRow hb hB _⟩
    rw [hrun, List.append_assoc, cpCells_length]
    unfold splice
    rw [cpCells_length]
    rfl

theorem index22 (g n cap k : Nat) (hk : k < n) (w : World) : (Instr.indexAt 22 (.slice (some ⟨g, 0, none⟩) n cap) (.int .i64 (k : Int))).run Tryf.prog w = .ok (.pointer (some ⟨g, k, none⟩)) w := by
  have h1 : (0 : Int) ≤ (k : Int) := by omega
  have h2 : (k : Int) < (n : Int) := by omega
  go_simp
theorem index22' (g n cap k : Nat) (hk : k + 1 < n) (w : World) : (Instr.indexAt 22 (.slice (some ⟨g, 0, none⟩) n cap) (.int .i64 ((k : Int) + 1))).run Tryf.prog w = .ok (.pointer (some ⟨g, k + 1, none⟩)) w := by
  have := index22 g n cap (k + 1) hk w
  simpa using this

set_option maxHeartbeats 1600000 in
set_option maxRecDepth 100000 in
theorem law_some (F : Interp) (ad : Addr) (n cap off : Nat) (byt : Nat → Int) (w : World) (hF : F.told.answers w.tape) (hE : Ety w) (hn : n ≤ 1048576) (ho : off ≤ n)
    (hA : ∀ j, j < n → w.cell? (ad.add j) = some (.int .u8 (byt j)) ∧ 0 ≤ byt j ∧ byt j < 256) : Calls Tryf.prog 3 #[.slice (some ad) n cap, .int .i64 (off : Int)] w (LawPost w) := by
  have HC := Lib.hid (bytes4_ok (some ad) n cap (off : Int) w hn)
  have hq := fun W => neq22 W (some ad) n cap
  obtain ⟨Z, hZ, hmk⟩ := make22 n hn w
  have g1 : decide ((1048576 : Int) < (n : Int)) = false := decide_eq_false (by omega)
  have g2 : decide ((off : Int) < 0) = false := decide_eq_false (by omega)
  have g3 : decide ((n : Int) < (off : Int)) = false := decide_eq_false (by omega)
  have hlo : ∀ j v, (cpCells n byt)[j]? = some v → (w.alloc (.cells Z.toArray 5 (0, 0))).cell? (ad.add j) = some v := fun j v hj => by
    obtain ⟨h1, rfl⟩ := cpCells_get n byt j v hj
    have hc := (hA j h1).1
    exact (World.grownBy.cell_far (World.grownBy_alloc w _ none) (ad.add j) (World.block_lt_of_cell? _ _ hc) (by simp)).trans hc
  have HLO := Lib.hid hlo
  have HZ := Lib.hid hZ
  have HE := Lib.hid hE
  have HAb := Lib.hid (fun j hj => (hA j hj).2)
  have hne : (w.alloc (.cells Z.toArray 5 (0, 0))).heap[w.heap.size]? = some (.cells Z.toArray 5 (0, 0)) := (MapKept.heap_alloc w _).1
  have hbel : Below w.heap.size w (w.alloc (.cells Z.toArray 5 (0, 0))) := (Below.refl _ w).alloc (Nat.le_refl _) _
  obtain ⟨w3, hcp, hg3, hB3⟩ := copy22 n cap byt ad Z hZ w (w.alloc (.cells Z.toArray 5 (0, 0))) hbel w.heap.size hne (Nat.le_refl _) hlo
  have hdat := dat_of_splice hZ (fun j hj => (hA j hj).2) hg3
  have hlt3 : w.heap.size < w3.heap.size := (Array.getElem?_eq_some_iff.1 hg3).1
  have HD := Lib.hid hdat
  have HB3 := Lib.hid hB3
  have HC2 := Lib.hid (zz5 F (byt := byt) (p := some ⟨w.heap.size, 0, none⟩) (n := n) (cap := n) (off := off) (w := w3) (by rw [hB3.tape]; exact hF) (.inr ⟨_, _, rfl, hdat, Nat.le_refl _, hlt3⟩) ho hn)
  clear hE hA hlo hZ hne hbel hg3 hB3 hdat HLO HZ
  go_enter Tryf.func3, Tryf.ntmps3
  go_wp2_with fail
  refine Calls.mono HC.out ?_
  rintro e w2 ⟨rfl, rfl⟩
  clear HC
  go_wp2_with fail
  refine Calls.mono HC2.out ?_
  rintro e w4 ⟨hb4, m, y, x, rfl, hcase⟩
  have r0 := wrap64 ((n : Int) - (off : Int)) (by omega) (by omega)
  have hE4 : Ety w4 := (HE.out.below HB3.out).below hb4
  have HX4 := Lib.hid hE4
  clear hE4 HC2
  rcases hcase with ⟨hsh, b, d, rfl, hra⟩ | ⟨h2, hlg, rfl | ⟨b, d, rfl, hra⟩⟩
  · have HC3 := Lib.hid (reason_trunc b d w4 hra HX4.out)
    clear hra
    go_wp2_with fail
    refine Calls.mono HC3.out ?_
    rintro e w5 ⟨rfl, hb5⟩
    clear HC3 HX4
    by_cases h2 : n < off + 2
    · have g5 : decide ((n : Int) - (off : Int) < 2) = true := decide_eq_true (by omega)
      have HB := Lib.hid (show Below w2.heap.size w2 w5 from (HB3.out.trans (hb4.mono HB3.out.size)).trans (hb5.mono (Nat.le_trans HB3.out.size hb4.size)))
      clear hb4 hb5 HB3 HD HE HAb
      go_wp2
      go_ret
      exact ⟨rfl, HB.out⟩
    · have hsz : (n : Int) < off + 2 + (byt off * 256 + byt (off + 1)) := by omega
      have g5 : decide ((n : Int) - (off : Int) < 2) = false := decide_eq_false (by omega)
      have b0 := HAb.out off (by omega)
      have b1 := HAb.out (off + 1) (by omega)
      have hlt4 : w2.heap.size < w4.heap.size := Nat.lt_of_lt_of_le hlt3 hb4.size
      have hd5 : Dat w5 w2.heap.size 0 n byt := ((HD.out.kept (grown_of_below hb4 none) (by simp)).kept (grown_of_below hb5 none) (by simp))
      have q0 : w5.cell? ⟨w2.heap.size, off, none⟩ = some (.int .u8 (byt off)) := by simpa using (hd5 off (by omega)).1
      have q1 : w5.cell? ⟨w2.heap.size, off + 1, none⟩ = some (.int .u8 (byt (off + 1))) := by simpa using (hd5 (off + 1) (by omega)).1
      have hi0 := index22 w2.heap.size n n off (by omega)
      have hi1 := index22' w2.heap.size n n off (by omega)
      have r1 := wrap64 (byt off) (by omega) (by omega)
      have r2 := wrap64 (byt (off + 1)) (by omega) (by omega)
      have r3 := wrap64 (byt off * 256) (by omega) (by omega)
      have r4 := wrap64 (byt off * 256 + byt (off + 1)) (by omega) (by omega)
      have r5 := wrap64 ((off : Int) + 1) (by omega) (by omega)
      have r6 := wrap64 ((n : Int) - (off : Int) - 2) (by omega) (by omega)
      have g6 : decide ((n : Int) - (off : Int) - 2 < byt off * 256 + byt (off + 1)) = true := decide_eq_true (by omega)
      have HB := Lib.hid (show Below w2.heap.size w2 w5 from (HB3.out.trans (hb4.mono HB3.out.size)).trans (hb5.mono (Nat.le_trans HB3.out.size hb4.size)))
      clear hb4 hb5 HB3 HD HE HAb hd5 b0 b1
      go_wp2_with fail
      go_quiet (fail)
      go_wp2
      go_ret
      exact ⟨rfl, Below.drewN HB.out _⟩
  · have HC3 := Lib.hid (reason_nil w4)
    go_wp2_with fail
    refine Calls.mono HC3.out ?_
    rintro e w5 ⟨rfl, hb5⟩
    clear HC3 HX4
    have g5 : decide ((n : Int) - (off : Int) < 2) = false := decide_eq_false (by omega)
    have b0 := HAb.out off (by omega)
    have b1 := HAb.out (off + 1) (by omega)
    have hlt4 : w2.heap.size < w4.heap.size := Nat.lt_of_lt_of_le hlt3 hb4.size
    have hd5 : Dat w5 w2.heap.size 0 n byt := ((HD.out.kept (grown_of_below hb4 none) (by simp)).kept (grown_of_below hb5 none) (by simp))
    have q0 : w5.cell? ⟨w2.heap.size, off, none⟩ = some (.int .u8 (byt off)) := by simpa using (hd5 off (by omega)).1
    have q1 : w5.cell? ⟨w2.heap.size, off + 1, none⟩ = some (.int .u8 (byt (off + 1))) := by simpa using (hd5 (off + 1) (by omega)).1
    have hi0 := index22 w2.heap.size n n off (by omega)
    have hi1 := index22' w2.heap.size n n off (by omega)
    have r1 := wrap64 (byt off) (by omega) (by omega)
    have r2 := wrap64 (byt (off + 1)) (by omega) (by omega)
    have r3 := wrap64 (byt off * 256) (by omega) (by omega)
    have r4 := wrap64 (byt off * 256 + byt (off + 1)) (by omega) (by omega)
    have r5 := wrap64 ((off : Int) + 1) (by omega) (by omega)
    have r6 := wrap64 ((n : Int) - (off : Int) - 2) (by omega) (by omega)
    have g6 : decide ((n : Int) - (off : Int) - 2 < byt off * 256 + byt (off + 1)) = false := decide_eq_false (by omega)
    have HB := Lib.hid (show Below w2.heap.size w2 w5 from (HB3.out.trans (hb4.mono HB3.out.size)).trans (hb5.mono (Nat.le_trans HB3.out.size hb4.size)))
    clear hb4 hb5 HB3 HD HE HAb hd5 b0 b1
    go_wp2_with fail
    go_quiet (fail)
    go_wp2
    go_ret
    exact ⟨rfl, Below.drewN HB.out _⟩
  · have HC3 := Lib.hid (reason_bad b d w4 hra HX4.out)
    clear hra
    go_wp2_with fail
    refine Calls.mono HC3.out ?_
    rintro e w5 ⟨rfl, hb5⟩
    clear HC3 HX4
    have g5 : decide ((n : Int) - (off : Int) < 2) = false := decide_eq_false (by omega)
    have b0 := HAb.out off (by omega)
    have b1 := HAb.out (off + 1) (by omega)
    have hlt4 : w2.heap.size < w4.heap.size := Nat.lt_of_lt_of_le hlt3 hb4.size
    have hd5 : Dat w5 w2.heap.size 0 n byt := ((HD.out.kept (grown_of_below hb4 none) (by simp)).kept (grown_of_below hb5 none) (by simp))
    have q0 : w5.cell? ⟨w2.heap.size, off, none⟩ = some (.int .u8 (byt off)) := by simpa using (hd5 off (by omega)).1
    have q1 : w5.cell? ⟨w2.heap.size, off + 1, none⟩ = some (.int .u8 (byt (off + 1))) := by simpa using (hd5 (off + 1) (by omega)).1
    have hi0 := index22 w2.heap.size n n off (by omega)
    have hi1 := index22' w2.heap.size n n off (by omega)
    have r1 := wrap64 (byt off) (by omega) (by omega)
    have r2 := wrap64 (byt (off + 1)) (by omega) (by omega)
    have r3 := wrap64 (byt off * 256) (by omega) (by omega)
    have r4 := wrap64 (byt off * 256 + byt (off + 1)) (by omega) (by omega)
    have r5 := wrap64 ((off : Int) + 1) (by omega) (by omega)
    have r6 := wrap64 ((n : Int) - (off : Int) - 2) (by omega) (by omega)
    have g6 : decide ((n : Int) - (off : Int) - 2 < byt off * 256 + byt (off + 1)) = false := decide_eq_false (by omega)
    have HB := Lib.hid (show Below w2.heap.size w2 w5 from (HB3.out.trans (hb4.mono HB3.out.size)).trans (hb5.mono (Nat.le_trans HB3.out.size hb4.size)))
    clear hb4 hb5 HB3 HD HE HAb hd5 b0 b1
    go_wp2_with fail
    go_quiet (fail)
    go_wp2
    go_ret
    exact ⟨rfl, Below.drewN HB.out _⟩

end Go.Proofs.Qxb6614869aFmt
