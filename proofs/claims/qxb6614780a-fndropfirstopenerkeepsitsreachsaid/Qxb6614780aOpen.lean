/-
  (*gate).open and the accessors, by their contracts.
-/
import Derived.Test.Qxb6614780aLeaf
import Derived.Test.Qxb6614780aMem
import Derived.Deep.QuietTactic
import Derived.BigQuiet
namespace Go.Proofs.Qxb6614780a
open Go.RowKit

set_option maxHeartbeats 400000 in
theorem open_some (ub o rb c : Nat) (ln ln0 : Int) (be be0 : ByteArray) (w : World) (hrb : ¬ rb = ub) (hcub : ¬ c = ub)
    (h0 : w.cell? ⟨ub, o, none⟩ = some (.chan (some c))) (h1 : w.cell? ⟨ub, o + 1, none⟩ = some (.int .u32 0)) (h2 : w.cell? ⟨ub, o + 2, none⟩ = some (.int .i64 ln0)) (h3 : w.cell? ⟨ub, o + 3, none⟩ = some (.string be0))
    (hf : ∀ j, w.frozen? ⟨ub, j, none⟩ = false) (r0 : w.cell? ⟨rb, 0, none⟩ = some (.int .i64 ln)) (r1 : w.cell? ⟨rb, 1, none⟩ = some (.string be))
    (hc : w.heap[c]? = some (.chan 0 #[] false 0 0 false)) :
    Calls Try.prog 37 #[.pointer (some ⟨ub, o, none⟩), .pointer (some ⟨rb, 0, none⟩)] w fun e w' => e = .returned (.tuple #[]) ∧
      w' = closed ((((w.setCell ⟨ub, o + 1, none⟩ (.int .u32 1)).setCell ⟨ub, o + 2, none⟩ (.int .i64 ln)).setCell ⟨ub, o + 2 + 1, none⟩ (.string be)).drew) c := by
  have hcl := run_close_open (P := Try.prog) (w := (((w.setCell ⟨ub, o + 1, none⟩ (.int .u32 1)).setCell ⟨ub, o + 2, none⟩ (.int .i64 ln)).setCell ⟨ub, o + 2 + 1, none⟩ (.string be)).drew) #[69] 0 (r := c)
    (by show (World.setCell _ _ _).heap[c]? = _; rw [Below.heap_setCell _ _ _ _ hcub, Below.heap_setCell _ _ _ _ hcub, Below.heap_setCell _ _ _ _ hcub]; exact hc)
  clear hc
  go_enter Try.func37, Try.ntmps37
  go_wp2_with (go_at_call 49; refine (swap_any ub (o + 1) 0 _ h1 (hf _)).mono ?_; rintro e w' ⟨rfl, rfl⟩)
  go_end0
  exact ⟨rfl, rfl⟩

set_option maxHeartbeats 400000 in
theorem open_none (ub o c : Nat) (w : World) (hcub : ¬ c = ub)
    (h0 : w.cell? ⟨ub, o, none⟩ = some (.chan (some c))) (h1 : w.cell? ⟨ub, o + 1, none⟩ = some (.int .u32 0))
    (hf : ∀ j, w.frozen? ⟨ub, j, none⟩ = false)
    (hc : w.heap[c]? = some (.chan 0 #[] false 0 0 false)) :
    Calls Try.prog 37 #[.pointer (some ⟨ub, o, none⟩), .pointer none] w fun e w' => e = .returned (.tuple #[]) ∧
      w' = closed ((w.setCell ⟨ub, o + 1, none⟩ (.int .u32 1)).drew) c := by
  have hcl := run_close_open (P := Try.prog) (w := (w.setCell ⟨ub, o + 1, none⟩ (.int .u32 1)).drew) #[69] 0 (r := c)
    (by show (World.setCell _ _ _).heap[c]? = _; rw [Below.heap_setCell _ _ _ _ hcub]; exact hc)
  clear hc
  go_enter Try.func37, Try.ntmps37
  go_wp2_with (go_at_call 49; refine (swap_any ub (o + 1) 0 _ h1 (hf _)).mono ?_; rintro e w' ⟨rfl, rfl⟩)
  go_end0
  exact ⟨rfl, rfl⟩

set_option maxHeartbeats 400000 in
theorem open_again (ub o : Nat) (v : Value) (w : World)
    (h1 : w.cell? ⟨ub, o + 1, none⟩ = some (.int .u32 1)) (hf : ∀ j, w.frozen? ⟨ub, j, none⟩ = false) :
    Calls Try.prog 37 #[.pointer (some ⟨ub, o, none⟩), v] w fun e w' => e = .returned (.tuple #[]) ∧
      w' = (w.setCell ⟨ub, o + 1, none⟩ (.int .u32 1)).drew := by
  go_enter Try.func37, Try.ntmps37
  go_wp2_with (go_at_call 49; refine (swap_any ub (o + 1) 1 _ h1 (hf _)).mono ?_; rintro e w' ⟨rfl, rfl⟩)
  go_end0
  exact ⟨rfl, rfl⟩

/-- (*gate).open, on whatever gate of the row. -/
theorem open_gates {ub n : Nat} {ch : Nat → Nat} {s : GS} {v : Value} {r : Option (Int × ByteArray)} {w : World} (hg : Gates w ub n ch s) (hr : IsReach w v r) {i : Nat} (hi : i < n) :
    Calls Try.prog 37 #[.pointer (some ⟨ub, i * 4, none⟩), v] w fun e w' => e = .returned (.tuple #[]) ∧ Gates w' ub n ch (opn r s i) ∧ Kept (GS.Wr ub n ch) w w' := by
  have hw1 : GS.Wr ub n ch ub := .inl rfl
  have hw2 : GS.Wr ub n ch (ch i) := .inr ⟨i, hi, rfl⟩
  cases hs : s.sh i with
  | true =>
    have h1 := hg.c1 hi
    rw [hs] at h1
    refine (open_again ub (i * 4) v w h1 hg.free).mono ?_
    rintro e w' ⟨rfl, rfl⟩
    exact ⟨rfl, by simpa [opn, hs] using (hg.again hi hs).drew, ((Kept.refl _ _).setCell (.inl hw1) _).drew⟩
  | false =>
    have h1 := hg.c1 hi
    rw [hs] at h1
    have hc := hg.chan i hi
    rw [hs] at hc
    match r, hr with
    | none, hr =>
      subst hr
      refine (open_none ub (i * 4) (ch i) w (hg.ch_ne hi) (hg.c0 hi) h1 hg.free hc).mono ?_
      rintro e w' ⟨rfl, rfl⟩
      exact ⟨rfl, hg.opened_none hi hs, (((Kept.refl _ _).setCell (.inl hw1) _).drew).closed hw2⟩
    | some (l, b), ⟨rb, hv, hb⟩ =>
      subst hv
      have hne : ¬ rb = ub := by
        rintro rfl
        obtain ⟨c, hb', _, _⟩ := hg.row
        rw [hb] at hb'; simp at hb'
      refine (open_some ub (i * 4) rb (ch i) l (s.ln i) b (s.be i) w hne (hg.ch_ne hi) (hg.c0 hi) h1 (hg.c2 hi) (hg.c3 hi) hg.free (by simp [World.cell?, hb]) (by simp [World.cell?, hb]) hc).mono ?_
      rintro e w' ⟨rfl, rfl⟩
      exact ⟨rfl, hg.opened_some hi hs l b, (((((Kept.refl _ _).setCell (.inl hw1) _).setCell (.inl hw1) _).setCell (.inl hw1) _).drew).closed hw2⟩

/-- A linking: block lb: no plan, the ended gates' row, the undone gates' row. -/
def IsLinking (w : World) (lb eb ub n : Nat) : Prop := w.heap[lb]? = some (.cells #[.pointer none, .slice (some ⟨eb, 0, none⟩) n n, .slice (some ⟨ub, 0, none⟩) n n] 68 (0, 0))

section
variable {w : World} {lb eb ub n : Nat}
theorem IsLinking.c1 (h : IsLinking w lb eb ub n) : w.cell? ⟨lb, 1, none⟩ = some (.slice (some ⟨eb, 0, none⟩) n n) := by unfold IsLinking at h; simp [World.cell?, h]
theorem IsLinking.c2 (h : IsLinking w lb eb ub n) : w.cell? ⟨lb, 2, none⟩ = some (.slice (some ⟨ub, 0, none⟩) n n) := by unfold IsLinking at h; simp [World.cell?, h]
end

theorem bne_b01 (b : Bool) : (b01 b != 0) = b := by cases b <;> rfl

set_option maxHeartbeats 400000 in
theorem ended_any (lb eb i n : Nat) (x : Int) (w : World) (hi : i < n)
    (h0 : w.cell? ⟨lb, 1, none⟩ = some (.slice (some ⟨eb, 0, none⟩) n n)) (h1 : w.cell? ⟨eb, i * 4 + 1, none⟩ = some (.int .u32 x)) :
    Calls Try.prog 21 #[.pointer (some ⟨lb, 0, none⟩), .int .i64 i] w fun e w' => e = .returned (.bool (x != 0)) ∧ w' = w := by
  go_enter Try.func21, Try.ntmps21
  go_wp2_with (go_at_call 30; refine (load_any eb (i * 4 + 1) x _ h1).mono ?_; rintro e w' ⟨rfl, rfl⟩)
  go_ret
  exact ⟨rfl, rfl⟩

set_option maxHeartbeats 400000 in
theorem undone_any (lb eb i n : Nat) (x : Int) (w : World) (hi : i < n)
    (h0 : w.cell? ⟨lb, 2, none⟩ = some (.slice (some ⟨eb, 0, none⟩) n n)) (h1 : w.cell? ⟨eb, i * 4 + 1, none⟩ = some (.int .u32 x)) :
    Calls Try.prog 22 #[.pointer (some ⟨lb, 0, none⟩), .int .i64 i] w fun e w' => e = .returned (.bool (x != 0)) ∧ w' = w := by
  go_enter Try.func22, Try.ntmps22
  go_wp2_with (go_at_call 30; refine (load_any eb (i * 4 + 1) x _ h1).mono ?_; rintro e w' ⟨rfl, rfl⟩)
  go_ret
  exact ⟨rfl, rfl⟩

set_option maxHeartbeats 400000 in
theorem opened_any (lb ub i n : Nat) (l : Int) (b : ByteArray) (w : World) (hi' : (i : Int) < (n : Int)) (hi0 : (0 : Int) ≤ (i : Int))
    (h0 : w.cell? ⟨lb, 2, none⟩ = some (.slice (some ⟨ub, 0, none⟩) n n)) (h1 : w.cell? ⟨ub, i * 4 + 2, none⟩ = some (.int .i64 l)) (h2 : w.cell? ⟨ub, i * 4 + 2 + 1, none⟩ = some (.string b)) :
    Calls Try.prog 23 #[.pointer (some ⟨lb, 0, none⟩), .int .i64 i] w fun e w' => e = .returned (.tuple #[.int .i64 l, .string b]) ∧ ∃ m, w' = w.drewN m := by
  go_enter Try.func23, Try.ntmps23
  go_wp2
  go_quiet (fail)
  go_wp2
  go_ret2
  exact ⟨rfl, _, rfl⟩

end Go.Proofs.Qxb6614780a
