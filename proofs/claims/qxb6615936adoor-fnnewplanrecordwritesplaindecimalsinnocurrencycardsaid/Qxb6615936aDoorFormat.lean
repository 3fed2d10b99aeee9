/-
  FormatAmount in the zero Currency; appendPadded, AppendTo and String of the zero Date.
-/
import Derived.Test.Qxb6615936aDoorAmount
namespace Go.Proofs.Qxb6615936aDoor
open Go.RowKit Go.Sort
set_option linter.unusedVariables false
set_option linter.unusedSimpArgs false

def StrPost (s : ByteArray) (w : World) (e : Ending) (w' : World) : Prop := e = .returned (.string s) ∧ Below w.heap.size w w'

theorem run_string_own (w : World) (B g cap : Nat) (s : ByteArray) (h : w.ownsRow B 5 1 (.slice (some ⟨g, 0, none⟩) s.data.toList.length cap) s.data.toList.length (Lib.byteCells s.data.toList)) :
    (convert 54 9 (.slice (some ⟨g, 0, none⟩) s.data.toList.length cap)).run Tryd.prog w = .ok (.string s) w := by
  have := run_string w g 0 s.data.toList.length cap s.data.toList rfl (fun j x hj => by
    have := h.cells (g := g) rfl j (.int .u8 (x.toNat : Int)) (by simp only [Lib.byteCells, List.getElem?_map, hj]; rfl)
    rwa [add_plain] at this)
  rw [this]

set_option maxRecDepth 100000 in
theorem format12 (a : Int) (ha0 : -9223372036854775808 ≤ a) (ha1 : a ≤ 9223372036854775807) (w : World) (htab : ∀ W, Below w.heap.size w W → Tab W) :
    Calls Tryd.prog 12 #[.agg #[.string ⟨#[]⟩, .int .i64 0], .int .i64 a] w (StrPost (decB a) w) := by
  have hB : Below w.heap.size w (w.alloc (.cells #[.string ⟨#[]⟩, .int .i64 0] 44)) := (Below.refl _ _).alloc (Nat.le_refl _) _
  have hle : w.heap.size ≤ (w.alloc (.cells #[.string ⟨#[]⟩, .int .i64 0] 44)).heap.size := by simp
  have HC := Lib.hid (amount15 a ha0 ha1 (w.alloc (.cells #[.string ⟨#[]⟩, .int .i64 0] 44)) (fun W h => htab W (hB.trans (h.mono hle))))
  have HB := Lib.hid hB
  clear htab hB
  go_enter Tryd.func12, Tryd.ntmps12
  go_wp2_with fail
  refine Calls.mono HC.out ?_
  rintro e w2 ⟨g, cap, rfl, hown, hbel⟩
  have hcv := run_string_own w2 _ g cap (decB a) hown
  have HB2 := Lib.hid (HB.out.trans (hbel.mono hle))
  clear hown hbel
  generalize (decB a).data.toList.length = n at hcv ⊢
  go_wp2
  go_ret
  exact ⟨rfl, HB2.out⟩

set_option maxRecDepth 100000 in
theorem pad19 (B : Nat) (l : List UInt8) (sv : Value) (w : World) (hown : w.ownsRow B 5 1 sv l.length (Lib.byteCells l)) (hB : B ≤ w.heap.size) (hl : l.length ≤ 1000) :
    Calls Tryd.prog 19 #[sv, .int .i64 0] w (OwnPost17 B sv (l ++ [48, 48]) w) := by
  obtain ⟨i, hi, hsz, hby, hz⟩ := info5'
  have HO := Lib.hid (hown.alloc (.cells #[.int .u8 48, .int .u8 48] 5))
  have HO1 := Lib.hid hown
  clear hown
  go_enter Tryd.func19, Tryd.ntmps19
  go_wp2_with (at_builtin; refine wpList_append_lies _ rfl _ _ 54 rfl B 5 i (.int .u8 0) 1 1 Tryd.underlying54 hi hz hsz hby rfl (by decide) sv l.length (Lib.byteCells l) rfl HO.out ⟨w.heap.size, 0, none⟩ 2 2 [.int .u8 48, .int .u8 48] rfl rfl (World.news_of_block (heap_alloc_new _ _)) (by simp [Value.oneCell']) (by decide) (by unfold maxLen; omega) (by omega) (by simp; omega) (w.heap.size + 1) (by simp) ?_)
  intro g2 cap w2 hown2 hgr hor hlt
  go_wp2
  go_ret
  have e1 : Lib.byteCells (l ++ [48, 48]) = Lib.byteCells l ++ [.int .u8 48, .int .u8 48] := by simp [Lib.byteCells]
  have e2 : (l ++ [48, 48]).length = l.length + 2 := by simp
  refine ⟨g2, cap, ?_, ?_, ?_⟩
  · rw [e2]; rfl
  · rw [e1, e2]; exact hown2
  · exact ⟨hgr.os, hgr.tape, hgr.output, Nat.le_trans (by simp) hgr.size, fun k hk hne => (hgr.block k (by simp; omega) hne).trans (heap_alloc_old w _ hk)⟩

/-- "0000-00-00" -/
def zdate : List UInt8 := [48, 48, 48, 48, 45, 48, 48, 45, 48, 48]

/-- While AppendTo runs. -/
structure DSt (B : Nat) (w : World) (db : Nat) (l : List UInt8) (v : Value) (W : World) : Prop where
  own : W.ownsRow B 5 1 v l.length (Lib.byteCells l)
  bel : Below B w W
  box : W.heap[db]? = some (.cells #[.int .i64 0, .int .i64 0, .int .i64 0] 39 (0, 0))
  le : B ≤ W.heap.size

theorem DSt.cell {B db : Nat} {w W : World} {l : List UInt8} {v : Value} (h : DSt B w db l v W) : W.cell? ⟨db, 0, none⟩ = some (.int .i64 0) ∧ W.cell? ⟨db, 1, none⟩ = some (.int .i64 0) ∧ W.cell? ⟨db, 2, none⟩ = some (.int .i64 0) :=
  ⟨cell_of_row W db 0 _ _ _ h.box, cell_of_row W db 1 _ _ _ h.box, cell_of_row W db 2 _ _ _ h.box⟩

theorem DSt.grown {B db : Nat} {w W W' : World} {l l' : List UInt8} {v v' : Value} (h : DSt B w db l v W) (hg : W.grownBy W' v.ownBlock) (ho : W'.ownsRow B 5 1 v' l'.length (Lib.byteCells l')) : DSt B w db l' v' W' :=
  ⟨ho, h.bel.grown hg h.le (fun k hk => (h.own.lt k hk).1), (hg.block _ (Array.getElem?_eq_some_iff.1 h.box).1 (own_ne h.own h.box (by decide))).trans h.box, Nat.le_trans h.le hg.size⟩

theorem DSt.alloc {B db : Nat} {w W : World} {l : List UInt8} {v : Value} (h : DSt B w db l v W) (c : Array Value) : DSt B w db l v (W.alloc (.cells c 5)) :=
  ⟨h.own.alloc _, h.bel.alloc h.le _, (heap_alloc_old W _ (Array.getElem?_eq_some_iff.1 h.box).1).trans h.box, Nat.le_trans h.le (by simp)⟩

set_option maxHeartbeats 1600000 in
set_option maxRecDepth 100000 in
theorem to16 (B : Nat) (sv : Value) (w : World) (hown : w.ownsRow B 5 1 sv ([] : List UInt8).length (Lib.byteCells [])) (hB : B ≤ w.heap.size) :
    Calls Tryd.prog 16 #[.agg #[.int .i64 0, .int .i64 0, .int .i64 0], sv] w (OwnPost B zdate w) := by
  obtain ⟨i, hi, hsz, hby, hz⟩ := info5'
  have HS : Hid (DSt B w w.heap.size [] sv (w.alloc (.cells #[.int .i64 0, .int .i64 0, .int .i64 0] 39))) := ⟨hown.alloc _, (Below.refl _ _).alloc hB _, heap_alloc_new w _, Nat.le_trans hB (by simp)⟩
  clear hown
  go_enter Tryd.func16, Tryd.ntmps16
  go_wp2_with fail
  have hD0 := HS.out
  clear HS
  refine (pad19 B ([]) _ _ hD0.own hD0.le (by decide)).mono ?_
  rintro e W1 ⟨g1, c1, rfl, ho1, hg1⟩
  have hD1 := hD0.grown hg1 ho1
  clear ho1 hg1
  obtain ⟨hx1, hy1, hz1⟩ := hD1.cell
  replace hD1 := Lib.hid hD1
  simp only [List.length_append, List.length_cons, List.length_nil, Nat.zero_add, Nat.reduceAdd]
  go_wp2_with fail
  replace hD1 := hD1.out
  refine (pad19 B ([] ++ [48, 48]) _ _ hD1.own hD1.le (by decide)).mono ?_
  rintro e W2 ⟨g2, c2, rfl, ho2, hg2⟩
  have hD2 := hD1.grown hg2 ho2
  clear ho2 hg2
  obtain ⟨hx2, hy2, hz2⟩ := hD2.cell
  replace hD2 := Lib.hid hD2
  simp only [List.length_append, List.length_cons, List.length_nil, Nat.zero_add, Nat.reduceAdd]
  go_wp2_with (at_builtin; refine wpList_append_lies _ rfl _ _ 54 rfl B 5 i (.int .u8 0) 1 1 Tryd.underlying54 hi hz hsz hby rfl (by decide) _ 4 (Lib.byteCells ([] ++ [48, 48] ++ [48, 48])) rfl ((hD2.out.alloc _).own) ⟨W2.heap.size, 0, none⟩ 1 1 [.int .u8 45] rfl rfl (World.news_of_block (heap_alloc_new _ _)) (by simp [Value.oneCell']) (by decide) (by unfold maxLen; decide) (by decide) ((hD2.out.alloc _).le) (W2.heap.size + 1) (by simp) ?_)
  intro g3 c3 W3 ho3 hg3 _ _
  have hD3 : DSt B w w.heap.size ([] ++ [48, 48] ++ [48, 48] ++ [45]) (.slice (some ⟨g3, 0, none⟩) (4 + 1) c3) W3 := (hD2.out.alloc _).grown hg3 (by simpa [Lib.byteCells] using ho3)
  clear ho3 hg3
  obtain ⟨hx3, hy3, hz3⟩ := hD3.cell
  replace hD3 := Lib.hid hD3
  go_wp2_with fail
  replace hD3 := hD3.out
  refine (pad19 B ([] ++ [48, 48] ++ [48, 48] ++ [45]) _ _ hD3.own hD3.le (by decide)).mono ?_
  rintro e W4 ⟨g4, c4, rfl, ho4, hg4⟩
  have hD4 := hD3.grown hg4 ho4
  clear ho4 hg4
  obtain ⟨hx4, hy4, hz4⟩ := hD4.cell
  replace hD4 := Lib.hid hD4
  simp only [List.length_append, List.length_cons, List.length_nil, Nat.zero_add, Nat.reduceAdd]
  go_wp2_with (at_builtin; refine wpList_append_lies _ rfl _ _ 54 rfl B 5 i (.int .u8 0) 1 1 Tryd.underlying54 hi hz hsz hby rfl (by decide) _ 7 (Lib.byteCells ([] ++ [48, 48] ++ [48, 48] ++ [45] ++ [48, 48])) rfl ((hD4.out.alloc _).own) ⟨W4.heap.size, 0, none⟩ 1 1 [.int .u8 45] rfl rfl (World.news_of_block (heap_alloc_new _ _)) (by simp [Value.oneCell']) (by decide) (by unfold maxLen; decide) (by decide) ((hD4.out.alloc _).le) (W4.heap.size + 1) (by simp) ?_)
  intro g5 c5 W5 ho5 hg5 _ _
  have hD5 : DSt B w w.heap.size ([] ++ [48, 48] ++ [48, 48] ++ [45] ++ [48, 48] ++ [45]) (.slice (some ⟨g5, 0, none⟩) (7 + 1) c5) W5 := (hD4.out.alloc _).grown hg5 (by simpa [Lib.byteCells] using ho5)
  clear ho5 hg5
  obtain ⟨hx5, hy5, hz5⟩ := hD5.cell
  replace hD5 := Lib.hid hD5
  go_wp2_with fail
  replace hD5 := hD5.out
  refine (pad19 B ([] ++ [48, 48] ++ [48, 48] ++ [45] ++ [48, 48] ++ [45]) _ _ hD5.own hD5.le (by decide)).mono ?_
  rintro e W6 ⟨g6, c6, rfl, ho6, hg6⟩
  have hD6 := hD5.grown hg6 ho6
  clear ho6 hg6
  obtain ⟨hx6, hy6, hz6⟩ := hD6.cell
  replace hD6 := Lib.hid hD6
  simp only [List.length_append, List.length_cons, List.length_nil, Nat.zero_add, Nat.reduceAdd]
  go_wp2
  go_ret
  exact ⟨g6, c6, rfl, hD6.out.own, hD6.out.bel⟩
end Go.Proofs.Qxb6615936aDoor
