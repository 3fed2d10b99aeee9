/-
  appendDecimal at no places; AppendAmount and FormatAmount in the zero Currency.
-/
import Derived.Test.Qxb6615936aDoorApp2
import Derived.Test.Qxb6615936aDoorHeld
namespace Go.Proofs.Qxb6615936aDoor
open Go.RowKit Go.Sort
set_option linter.unusedVariables false
set_option linter.unusedSimpArgs false

def OwnPost (B : Nat) (l : List UInt8) (w : World) (e : Ending) (w' : World) : Prop :=
  ∃ g cap, e = .returned (.slice (some ⟨g, 0, none⟩) l.length cap) ∧ w'.ownsRow B 5 1 (.slice (some ⟨g, 0, none⟩) l.length cap) l.length (Lib.byteCells l) ∧ Below B w w'

theorem own_ne {w : World} {B n : Nat} {v : Value} {xs : List Value} (hown : w.ownsRow B 5 1 v n xs) {b t : Nat} {c : Array Value} (hb : w.heap[b]? = some (.cells c t (0, 0))) (ht : t ≠ 5) : some b ≠ v.ownBlock := by
  intro e
  rcases hown.2 with ⟨rfl, _⟩ | ⟨g, cap, cur, rfl, _, hg, _⟩
  · cases e
  · simp only [Value.ownBlock, Option.some.injEq] at e
    subst e
    rw [hb] at hg
    simp only [Option.some.injEq, Obj.cells.injEq] at hg
    exact ht hg.2.1

def OwnPost17 (B : Nat) (sv : Value) (l : List UInt8) (w : World) (e : Ending) (w' : World) : Prop :=
  ∃ g cap, e = .returned (.slice (some ⟨g, 0, none⟩) l.length cap) ∧ w'.ownsRow B 5 1 (.slice (some ⟨g, 0, none⟩) l.length cap) l.length (Lib.byteCells l) ∧ w.grownBy w' sv.ownBlock

theorem byteCells_one (l : List UInt8) : ∀ u ∈ Lib.byteCells l, u.oneCell' = true := by
  intro u hu
  simp only [Lib.byteCells, List.mem_map] at hu
  obtain ⟨b, _, rfl⟩ := hu
  rfl

theorem front_byteCells {w : World} {g : Nat} {l : List UInt8} (h : Front w g l) : ∀ j u, (Lib.byteCells l)[j]? = some u → w.cell? ((⟨g, 0, none⟩ : Addr).add j) = some u := by
  intro j u hj
  rw [add_plain]
  simp only [Lib.byteCells, List.getElem?_map] at hj
  cases hx : l[j]? with
  | none => rw [hx] at hj; cases hj
  | some x => rw [hx] at hj; cases hj; simpa using h j x hx

set_option maxHeartbeats 1600000 in
set_option maxRecDepth 100000 in
theorem dec17 (B g m : Nat) (l l2 : List UInt8) (sv : Value) (w : World) (hown : w.ownsRow B 5 1 sv l.length (Lib.byteCells l)) (hB : B ≤ w.heap.size) (hf : Front w g l2) (hm : l2.length = m) (hm0 : 0 < m) (hl : l.length + m ≤ 1000) :
    Calls Tryd.prog 17 #[sv, .slice (some ⟨g, 0, none⟩) m 20, .int .i64 0] w (OwnPost17 B sv (l ++ l2) w) := by
  obtain ⟨i, hi, hsz, hby, hz⟩ := info5'
  have HO := Lib.hid hown
  have HF := Lib.hid (front_byteCells hf)
  clear hown hf
  go_enter Tryd.func17, Tryd.ntmps17
  go_wp2_with (at_builtin; refine wpList_append_lies _ rfl _ _ 54 rfl B 5 i (.int .u8 0) 1 1 Tryd.underlying54 hi hz hsz hby rfl (by decide) sv l.length (Lib.byteCells l) rfl HO.out ⟨g, 0, none⟩ m 20 (Lib.byteCells l2) rfl (by rw [Lib.byteCells_length, hm, Nat.mul_one]) HF.out (byteCells_one l2) hm0 (by unfold maxLen; omega) (by omega) hB w.heap.size rfl ?_)
  intro g2 cap w2 hown2 hgr hor hlt
  go_wp2
  go_ret
  have e1 : Lib.byteCells (l ++ l2) = Lib.byteCells l ++ Lib.byteCells l2 := by simp [Lib.byteCells]
  have e2 : (l ++ l2).length = l.length + m := by rw [List.length_append, hm]
  refine ⟨g2, cap, ?_, ?_, hgr⟩
  · rw [e2]; rfl
  · rw [e1, e2]; exact hown2

/-- The zero Currency. -/
def cur0 : Value := .agg #[.string ⟨#[]⟩, .int .i64 0]

set_option maxHeartbeats 1600000 in
set_option maxRecDepth 100000 in
theorem amount15 (a : Int) (ha0 : -9223372036854775808 ≤ a) (ha1 : a ≤ 9223372036854775807) (w : World) (htab : ∀ W, Below w.heap.size w W → Tab W) :
    Calls Tryd.prog 15 #[.agg #[.string ⟨#[]⟩, .int .i64 0], .slice none 0 0, .int .i64 a] w (OwnPost w.heap.size (decB a).data.toList w) := by
  by_cases g : a < 0
  · have g1 : decide (a < 0) = true := decide_eq_true g
    have HT := Lib.hid htab
    have hwn := wrap_neg a g ha0
    obtain ⟨i, hi, hsz, hby, hz⟩ := info5'
    clear htab
    go_enter Tryd.func15, Tryd.ntmps15
    go_wp2_with fail
    generalize hcap : (Question.appendCap 1 0 5).cut (w.tape w.drawn (Question.appendCap 1 0 5)) = cp
    have hcp1 : 1 ≤ cp := by rw [← hcap]; exact grownCap_ge w 1 0 5
    have hcp2 : cp ≤ maxLen := by rw [← hcap]; exact grownCap_le_maxLen w 1 0 5 (by decide)
    clear hcap
    generalize hW : World.drew (World.alloc _ (Obj.cells _ 53)) = W
    have hbel : Below w.heap.size w W := by rw [← hW]; exact (((((Below.refl _ _).alloc (Nat.le_refl _) _).alloc (by simp) _).alloc (by simp; omega) _).alloc (by simp; omega) _).drew
    have hcb : W.heap[w.heap.size]? = some (.cells #[.string ⟨#[]⟩, .int .i64 0] 44 (0, 0)) := by
      rw [← hW]
      show ((((w.heap.push _).push _).push _).push _)[w.heap.size]? = _
      rw [Array.getElem?_push, if_neg (by simp only [Array.size_push]; omega), Array.getElem?_push, if_neg (by simp only [Array.size_push]; omega), Array.getElem?_push, if_neg (by simp only [Array.size_push]; omega), Array.getElem?_push, if_pos rfl]
    obtain ⟨z20, hz20, hgb⟩ : ∃ z20 : Array Value, z20.size = 20 ∧ W.heap[w.heap.size + 1 + 1 + 1]? = some (.cells z20 53 (0, 0)) := ⟨_, rfl, by
      rw [← hW]
      show ((((w.heap.push _).push _).push _).push _)[w.heap.size + 1 + 1 + 1]? = _
      rw [Array.getElem?_push, if_pos (by simp only [Array.size_push])]⟩
    have hown : W.ownsRow w.heap.size 5 1 (.slice (some ⟨w.heap.size + 1 + 1, 0, none⟩) 1 cp) ([45] : List UInt8).length (Lib.byteCells [45]) := by
      refine ⟨rfl, .inr ⟨w.heap.size + 1 + 1, cp, #[Value.int .u8 45] ++ Builtin.zeroCells #[Value.int .u8 0] (cp - 1), rfl, by omega, ?_, hcp1, hcp2, ?_, ?_⟩⟩
      · rw [← hW]
        show ((((w.heap.push _).push _).push _).push _)[w.heap.size + 1 + 1]? = _
        rw [Array.getElem?_push, if_neg (by simp only [Array.size_push]; omega), Array.getElem?_push, if_pos (by simp only [Array.size_push])]
      · simp [size_zeroCells]; omega
      · simp [Lib.byteCells]
    obtain ⟨u, hu, hu64, hdec⟩ : ∃ u : Nat, -a = (u : Int) ∧ u < 18446744073709551616 ∧ (decB a).data.toList = [45] ++ Lib.decDigits u := ⟨(-a).toNat, by omega, by omega, by rw [decB, if_pos (by omega)]; simp [decN]⟩
    clear hW
    refine wp_region_held_drew (S := fun W => Below w.heap.size w W ∧ W.heap[w.heap.size]? = some (.cells #[.string ⟨#[]⟩, .int .i64 0] 44 (0, 0))) (by kernel_rfl) ⟨hbel.drew, hcb⟩ (fun hHeld => ?_)
    refine take_val (i := 0) rfl (by kernel_rfl) (by kernel_rfl) (by kernel_rfl) (fun _ _ _ h => h) (by rfl) (by intro w hw; go_simp; with_reducible rfl) (by assumption) ?_
    simp only [Act.put, List.setIfInBounds_toArray, List.set_cons_zero, List.set_cons_succ]
    refine take_val (i := 1) rfl (by kernel_rfl) (by kernel_rfl) (by kernel_rfl) (fun _ _ _ h => h) (by rfl) (by intro w hw; go_simp; with_reducible rfl) (by assumption) ?_
    simp only [Act.put, List.setIfInBounds_toArray, List.set_cons_zero, List.set_cons_succ]
    refine take_val (i := 2) rfl (by kernel_rfl) (by kernel_rfl) (by kernel_rfl) (fun _ _ _ h => h) (by rfl) (by intro w hw; go_simp; with_reducible rfl) (by assumption) ?_
    simp only [Act.put, List.setIfInBounds_toArray, List.set_cons_zero, List.set_cons_succ]
    refine take_val (i := 4) rfl (by kernel_rfl) (by kernel_rfl) (by kernel_rfl) (fun _ _ _ h => h) (by rfl) (by intro w hw; go_simp; with_reducible rfl) (by assumption) ?_
    simp only [Act.put, List.setIfInBounds_toArray, List.set_cons_zero, List.set_cons_succ]
    refine take_val (i := 5) (v := .int .i64 0) rfl (by kernel_rfl) (by kernel_rfl) (by kernel_rfl) (fun _ _ _ h => h) (by rfl) (by intro w1 hw; have hc : w1.cell? ⟨w.heap.size, 1, none⟩ = some (.int .i64 0) := cell_of_row w1 w.heap.size 1 _ _ _ hw.2; go_simp) (by assumption) ?_
    simp only [Act.put, List.setIfInBounds_toArray, List.set_cons_zero, List.set_cons_succ]
    refine one_call (i := 3) rfl (by kernel_rfl) (by rfl) 18 #[.slice (some ⟨w.heap.size + 1 + 1 + 1, 0, none⟩) 0 20, .int .u64 u, .int .i64 10] (by rw [← hu]; go_simp) ?_
    refine (app18 (w.heap.size + 1 + 1 + 1) 53 u z20 hu64 W.drew hgb hz20 (HT.out _ hbel.drew)).mono ?_
    rintro e W2 ⟨rfl, hgr, hfr⟩
    have hWs : w.heap.size + 1 + 1 + 1 < W.heap.size := (Array.getElem?_eq_some_iff.1 hgb).1
    have hW2b : Below w.heap.size w W2 := hbel.drew.grown hgr (by show w.heap.size ≤ W.heap.size; omega) (fun k hk => by cases hk; omega)
    have hW2s : w.heap.size ≤ W2.heap.size := hW2b.size
    have hcb2 : W2.heap[w.heap.size]? = some (.cells #[.string ⟨#[]⟩, .int .i64 0] 44 (0, 0)) := (hgr.block _ (by show w.heap.size < W.heap.size; omega) (by simp <;> omega)).trans hcb
    have hown2 := World.ownsRow.kept (w := W.drew) hown hgr (by first | exact .inl rfl | exact .inr (fun e => own_ne hown hgb (by decide) e.symm))
    refine ⟨_, rfl, ⟨hW2b, hcb2⟩, ?_⟩
    simp only [Act.put, List.setIfInBounds_toArray, List.set_cons_zero, List.set_cons_succ]
    refine one_call (i := 6) rfl (by kernel_rfl) (by rfl) 17 #[.slice (some ⟨w.heap.size + 1 + 1, 0, none⟩) 1 cp, .slice (some ⟨w.heap.size + 1 + 1 + 1, 0, none⟩) (Lib.nDigits u) 20, .int .i64 0] (by go_simp) ?_
    refine (dec17 w.heap.size (w.heap.size + 1 + 1 + 1) (Lib.nDigits u) [45] (Lib.decDigits u) _ W2 hown2 hW2s hfr (Lib.decDigits_length u) (Lib.nDigits_pos u) (by have := Lib.nDigits_le20 u hu64; simp; omega)).mono ?_
    rintro e W3 ⟨g2, cap, rfl, hown3, hgr3⟩
    have hW3b : Below w.heap.size w W3 := hW2b.grown hgr3 hW2s (fun k hk => (hown2.lt k hk).1)
    have hcb3 : W3.heap[w.heap.size]? = some (.cells #[.string ⟨#[]⟩, .int .i64 0] 44 (0, 0)) := (hgr3.block _ (Array.getElem?_eq_some_iff.1 hcb2).1 (own_ne hown2 hcb2 (by decide))).trans hcb2
    have hS3 : Below w.heap.size w W3 ∧ W3.heap[w.heap.size]? = some (.cells #[.string ⟨#[]⟩, .int .i64 0] 44 (0, 0)) := ⟨hW3b, hcb3⟩
    refine ⟨_, rfl, hS3, ?_⟩
    simp only [Act.put, List.setIfInBounds_toArray, List.set_cons_zero, List.set_cons_succ]
    refine take_val (i := 7) rfl (by kernel_rfl) (by kernel_rfl) (by kernel_rfl) (fun _ _ _ h => h) (by rfl) (by intro w hw; go_simp; with_reducible rfl) (by assumption) ?_
    simp only [Act.put, List.setIfInBounds_toArray, List.set_cons_zero, List.set_cons_succ]
    refine wpAnyH_done (by kernel_rfl) ?_ _
    have HO := Lib.hid hown3
    have HB := Lib.hid hW3b
    clear hS3 hcb3 hW3b hgr3 hown3 hown2 hcb2 hW2b hgr hfr hown hgb hcb hbel hHeld
    have HD := Lib.hid hdec
    clear hdec
    go_wp2
    go_ret
    refine ⟨g2, cap, ?_, ?_, HB.out⟩
    · rw [HD.out]; first | rfl | (simp; rfl)
    · rw [HD.out]; exact HO.out
  · have g1 : decide (a < 0) = false := decide_eq_false g
    have HT := Lib.hid htab
    clear htab
    go_enter Tryd.func15, Tryd.ntmps15
    go_wp2
    generalize hW : (World.alloc _ (Obj.cells _ 53)) = W
    have hbel : Below w.heap.size w W := by rw [← hW]; exact ((Below.refl _ _).alloc (Nat.le_refl _) _).alloc (by simp) _
    have hcb : W.heap[w.heap.size]? = some (.cells #[.string ⟨#[]⟩, .int .i64 0] 44 (0, 0)) := by rw [← hW]; exact heap_alloc2_old w _ _
    obtain ⟨z20, hz20, hgb⟩ : ∃ z20 : Array Value, z20.size = 20 ∧ W.heap[w.heap.size + 1]? = some (.cells z20 53 (0, 0)) := ⟨_, rfl, by rw [← hW]; exact heap_alloc2_new w _ _⟩
    have hown : W.ownsRow w.heap.size 5 1 (.slice none 0 0) ([] : List UInt8).length (Lib.byteCells []) := World.ownsRow_nil _ _ _ _
    obtain ⟨u, hu, hu64, hdec⟩ : ∃ u : Nat, a = (u : Int) ∧ u < 18446744073709551616 ∧ (decB a).data.toList = [] ++ Lib.decDigits u := ⟨a.toNat, by omega, by omega, by rw [decB, if_neg (by omega)]; simp [decN]⟩
    have hub : a = (u : Int) := hu
    clear hW
    refine wp_region_held_drew (S := fun W => Below w.heap.size w W ∧ W.heap[w.heap.size]? = some (.cells #[.string ⟨#[]⟩, .int .i64 0] 44 (0, 0))) (by kernel_rfl) ⟨hbel.drew, hcb⟩ (fun hHeld => ?_)
    refine take_val (i := 0) rfl (by kernel_rfl) (by kernel_rfl) (by kernel_rfl) (fun _ _ _ h => h) (by rfl) (by intro w hw; go_simp; with_reducible rfl) (by assumption) ?_
    simp only [Act.put, List.setIfInBounds_toArray, List.set_cons_zero, List.set_cons_succ]
    refine take_val (i := 1) rfl (by kernel_rfl) (by kernel_rfl) (by kernel_rfl) (fun _ _ _ h => h) (by rfl) (by intro w hw; go_simp; with_reducible rfl) (by assumption) ?_
    simp only [Act.put, List.setIfInBounds_toArray, List.set_cons_zero, List.set_cons_succ]
    refine take_val (i := 2) rfl (by kernel_rfl) (by kernel_rfl) (by kernel_rfl) (fun _ _ _ h => h) (by rfl) (by intro w hw; go_simp; with_reducible rfl) (by assumption) ?_
    simp only [Act.put, List.setIfInBounds_toArray, List.set_cons_zero, List.set_cons_succ]
    refine take_val (i := 4) rfl (by kernel_rfl) (by kernel_rfl) (by kernel_rfl) (fun _ _ _ h => h) (by rfl) (by intro w hw; go_simp; with_reducible rfl) (by assumption) ?_
    simp only [Act.put, List.setIfInBounds_toArray, List.set_cons_zero, List.set_cons_succ]
    refine take_val (i := 5) (v := .int .i64 0) rfl (by kernel_rfl) (by kernel_rfl) (by kernel_rfl) (fun _ _ _ h => h) (by rfl) (by intro w1 hw; have hc : w1.cell? ⟨w.heap.size, 1, none⟩ = some (.int .i64 0) := cell_of_row w1 w.heap.size 1 _ _ _ hw.2; go_simp) (by assumption) ?_
    simp only [Act.put, List.setIfInBounds_toArray, List.set_cons_zero, List.set_cons_succ]
    refine one_call (i := 3) rfl (by kernel_rfl) (by rfl) 18 #[.slice (some ⟨w.heap.size + 1, 0, none⟩) 0 20, .int .u64 u, .int .i64 10] (by go_simp) ?_
    refine (app18 (w.heap.size + 1) 53 u z20 hu64 W.drew hgb hz20 (HT.out _ hbel.drew)).mono ?_
    rintro e W2 ⟨rfl, hgr, hfr⟩
    have hWs : w.heap.size + 1 < W.heap.size := (Array.getElem?_eq_some_iff.1 hgb).1
    have hW2b : Below w.heap.size w W2 := hbel.drew.grown hgr (by show w.heap.size ≤ W.heap.size; omega) (fun k hk => by cases hk; omega)
    have hW2s : w.heap.size ≤ W2.heap.size := hW2b.size
    have hcb2 : W2.heap[w.heap.size]? = some (.cells #[.string ⟨#[]⟩, .int .i64 0] 44 (0, 0)) := (hgr.block _ (by show w.heap.size < W.heap.size; omega) (by simp <;> omega)).trans hcb
    have hown2 := World.ownsRow.kept (w := W.drew) hown hgr (by first | exact .inl rfl | exact .inr (fun e => own_ne hown hgb (by decide) e.symm))
    refine ⟨_, rfl, ⟨hW2b, hcb2⟩, ?_⟩
    simp only [Act.put, List.setIfInBounds_toArray, List.set_cons_zero, List.set_cons_succ]
    refine one_call (i := 6) rfl (by kernel_rfl) (by rfl) 17 #[.slice none 0 0, .slice (some ⟨w.heap.size + 1, 0, none⟩) (Lib.nDigits u) 20, .int .i64 0] (by go_simp) ?_
    refine (dec17 w.heap.size (w.heap.size + 1) (Lib.nDigits u) [] (Lib.decDigits u) _ W2 hown2 hW2s hfr (Lib.decDigits_length u) (Lib.nDigits_pos u) (by have := Lib.nDigits_le20 u hu64; simp; omega)).mono ?_
    rintro e W3 ⟨g2, cap, rfl, hown3, hgr3⟩
    have hW3b : Below w.heap.size w W3 := hW2b.grown hgr3 hW2s (fun k hk => (hown2.lt k hk).1)
    have hcb3 : W3.heap[w.heap.size]? = some (.cells #[.string ⟨#[]⟩, .int .i64 0] 44 (0, 0)) := (hgr3.block _ (Array.getElem?_eq_some_iff.1 hcb2).1 (own_ne hown2 hcb2 (by decide))).trans hcb2
    have hS3 : Below w.heap.size w W3 ∧ W3.heap[w.heap.size]? = some (.cells #[.string ⟨#[]⟩, .int .i64 0] 44 (0, 0)) := ⟨hW3b, hcb3⟩
    refine ⟨_, rfl, hS3, ?_⟩
    simp only [Act.put, List.setIfInBounds_toArray, List.set_cons_zero, List.set_cons_succ]
    refine take_val (i := 7) rfl (by kernel_rfl) (by kernel_rfl) (by kernel_rfl) (fun _ _ _ h => h) (by rfl) (by intro w hw; go_simp; with_reducible rfl) (by assumption) ?_
    simp only [Act.put, List.setIfInBounds_toArray, List.set_cons_zero, List.set_cons_succ]
    refine wpAnyH_done (by kernel_rfl) ?_ _
    have HO := Lib.hid hown3
    have HB := Lib.hid hW3b
    clear hS3 hcb3 hW3b hgr3 hown3 hown2 hcb2 hW2b hgr hfr hown hgb hcb hbel hHeld
    have HD := Lib.hid hdec
    clear hdec
    go_wp2
    go_ret
    refine ⟨g2, cap, ?_, ?_, HB.out⟩
    · rw [HD.out]; first | rfl | (simp; rfl)
    · rw [HD.out]; exact HO.out
end Go.Proofs.Qxb6615936aDoor
