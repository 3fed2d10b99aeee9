/-
  (*RefusedError).Error at an error of refuse's make, and refuse at the three formats.
-/
import Derived.Test.Qxb6614869aFmtText
import Derived.WalkKit
import Derived.WalkSpells
import Derived.WalkLawsBesides
namespace Go.Proofs.Qxb6614869aFmt
open Go.RowKit Go.Extern.Stop Go.Stop Go.Extern Go.Kit
set_option linter.unusedVariables false
set_option linter.unusedSimpArgs false
attribute [local go_sem] Tryf.call20 Tryf.guard Tryf.fmt0 Tryf.fmt0r Tryf.fmt1 Tryf.fmt1r Tryf.fmt2 Tryf.fmt2r Tryf.act3_100 Tryf.op3_100 Tryf.act5_120 Tryf.op5_120 Tryf.act5_113 Tryf.op5_113 Tryf.act42_100 Tryf.op42_100 Tryf.act37_118 Tryf.isError37 Tryf.str37

/-- an error that refuse has made, at block b -/
def RefAt (w : World) (b : Nat) (r d : ByteArray) : Prop := w.heap[b]? = some (.cells #[.string r, .string d, .nilIface] 41 (0, 0))

set_option maxRecDepth 100000 in
set_option maxHeartbeats 1000000 in
theorem error43 (b : Nat) (r d : ByteArray) (w : World) (h : RefAt w b r d) (hr : r.size ≤ 100) (hd : d.size ≤ 1000) :
    Calls Tryf.prog 43 #[.pointer (some ⟨b, 0, none⟩)] w fun e w' => ∃ s : ByteArray, e = .returned (.string s) ∧ s.size ≤ 2000 ∧ w' = w := by
  have c0 : w.cell? ⟨b, 0, none⟩ = some (.string r) := by simp [World.cell?, RefAt] at h ⊢; simp [h]
  have c1 : w.cell? ⟨b, 1, none⟩ = some (.string d) := by simp [World.cell?, RefAt] at h ⊢; simp [h]
  have c2 : w.cell? ⟨b, 2, none⟩ = some .nilIface := by simp [World.cell?, RefAt] at h ⊢; simp [h]
  clear h
  go_enter Tryf.func43, Tryf.ntmps43
  go_wp2
  all_goals go_ret
  all_goals exact ⟨_, rfl, by simp only [ByteArray.size_append]; have e9 : (⟨#[114, 101, 102, 117, 115, 101, 100, 58, 32]⟩ : ByteArray).size = 9 := rfl; have e2 : (⟨#[58, 32]⟩ : ByteArray).size = 2 := rfl; omega, rfl⟩

/-- what refuse hands back: an error of its make, in a new block; nothing that was there has turned -/
def RefPost (r : ByteArray) (k : Nat) (w : World) (e : Ending) (w' : World) : Prop :=
  ∃ b d, e = .returned (.iface 37 (.pointer (some ⟨b, 0, none⟩))) ∧ RefAt w' b r d ∧ d.size ≤ k ∧ w.heap.size ≤ b ∧ Below w.heap.size w w'

theorem told_size (F : Interp) {rd : List (List UInt8)} {t : List UInt8} (h : FmtText.text "fmt.Sprintf" rd = some t) (hl : t.length ≤ 200) : (FmtStop.textOf (F.told "fmt.Sprintf" rd 0)).size ≤ 1000 := by
  have e := textOf_list F.told "fmt.Sprintf" rd
  rw [told_string F h (by omega)] at e
  have h2 : (FmtStop.textOf (F.told "fmt.Sprintf" rd 0)).size = t.length := by rw [← e, Array.length_toList]; rfl
  omega

set_option maxRecDepth 100000 in
set_option maxHeartbeats 1000000 in
theorem refuseNeed (F : Interp) (n o h : Int) (blk : Nat) (w : World) (hF : F.told.answers w.tape) (wn : (Lit.int .i64 n).wf = true) (wo : (Lit.int .i64 o).wf = true) (wh : (Lit.int .i64 h).wf = true)
    (hc0 : w.cell? ⟨blk, 0, none⟩ = some (.iface 3 (.int .i64 n))) (hc1 : w.cell? ⟨blk, 1, none⟩ = some (.iface 3 (.int .i64 o))) (hc2 : w.cell? ⟨blk, 2, none⟩ = some (.iface 3 (.int .i64 h))) :
    Calls Tryf.prog 12 #[.string ⟨#[116, 114, 117, 110, 99, 97, 116, 101, 100]⟩, .string ⟨#[110, 101, 101, 100, 32, 37, 100, 32, 98, 121, 116, 101, 115, 32, 97, 116, 32, 111, 102, 102, 115, 101, 116, 32, 37, 100, 44, 32, 104, 97, 118, 101, 32, 37, 100]⟩, .slice (some ⟨blk, 0, none⟩) 3 3] w (RefPost bTrunc 1000 w) := by
  have hF' := answers_open hF
  obtain ⟨t, ht, hl⟩ := textNeed n o h wn wo wh
  have hsz := told_size F ht hl
  clear ht hl
  go_enter Tryf.func12, Tryf.ntmps12
  go_wp2
  apply rows_value Tryf.nextTurns
  case hr =>
    go_simp
    exact ⟨rfl, rfl⟩
  case h =>
    go_wp2
    go_ret
    refine ⟨_, FmtStop.textOf (F.told "fmt.Sprintf" (rdNeed n o h) 0), rfl, ?_, hsz, ?_, ?_⟩
    · exact (MapKept.heap_alloc w _).1
    · exact Nat.le_refl _
    · exact ((Below.refl _ w).alloc (Nat.le_refl _) _).drew

set_option maxRecDepth 100000 in
set_option maxHeartbeats 1000000 in
theorem refuseByte (F : Interp) (b c : Int) (blk : Nat) (w : World) (hF : F.told.answers w.tape) (b0 : 0 ≤ b) (b1 : b < 256) (c0 : 0 ≤ c) (c1 : c < 256)
    (hc0 : w.cell? ⟨blk, 0, none⟩ = some (.iface 5 (.int .u8 b))) (hc1 : w.cell? ⟨blk, 1, none⟩ = some (.iface 5 (.int .u8 c))) :
    Calls Tryf.prog 12 #[.string ⟨#[98, 97, 100, 45, 109, 97, 112, 112, 105, 110, 103]⟩, .string ⟨#[98, 121, 116, 101, 32, 48, 120, 37, 48, 50, 120, 32, 119, 104, 101, 114, 101, 32, 37, 113, 32, 98, 101, 108, 111, 110, 103, 115]⟩, .slice (some ⟨blk, 0, none⟩) 2 2] w (RefPost bBad 1000 w) := by
  have hF' := answers_open hF
  obtain ⟨t, ht, hl⟩ := textByte b c b0 b1 c0 c1
  have hsz := told_size F ht hl
  clear ht hl
  go_enter Tryf.func12, Tryf.ntmps12
  go_wp2
  apply rows_value Tryf.nextTurns
  case hr =>
    go_simp
    exact ⟨rfl, rfl⟩
  case h =>
    go_wp2
    go_ret
    refine ⟨_, FmtStop.textOf (F.told "fmt.Sprintf" (rdByte b c) 0), rfl, ?_, hsz, ?_, ?_⟩
    · exact (MapKept.heap_alloc w _).1
    · exact Nat.le_refl _
    · exact ((Below.refl _ w).alloc (Nat.le_refl _) _).drew

set_option maxRecDepth 100000 in
set_option maxHeartbeats 1000000 in
theorem refuseEntry (F : Interp) (o z : Int) (eb : Nat) (r d : ByteArray) (blk : Nat) (w : World) (hF : F.told.answers w.tape) (hE : RefAt w eb r d) (hr : r.size ≤ 100) (hd : d.size ≤ 1000)
    (hc0 : w.cell? ⟨blk, 0, none⟩ = some (.iface 3 (.int .i64 o))) (hc1 : w.cell? ⟨blk, 1, none⟩ = some (.iface 42 (.int .u16 z))) (hc2 : w.cell? ⟨blk, 2, none⟩ = some (.iface 37 (.pointer (some ⟨eb, 0, none⟩)))) :
    Calls Tryf.prog 12 #[.string ⟨#[98, 97, 100, 45, 109, 97, 112, 112, 105, 110, 103]⟩, .string ⟨#[101, 110, 116, 114, 121, 32, 97, 116, 32, 111, 102, 102, 115, 101, 116, 32, 37, 100, 32, 111, 102, 32, 97, 32, 37, 100, 45, 98, 121, 116, 101, 32, 109, 97, 112, 112, 105, 110, 103, 58, 32, 37, 118]⟩, .slice (some ⟨blk, 0, none⟩) 3 3] w (RefPost bBad maxLen w) := by
  have hF' := answers_open hF
  have HE := Lib.hid hE
  clear hE
  go_enter Tryf.func12, Tryf.ntmps12
  go_wp2
  apply rows_call Tryf.nextTurns
  case hr =>
    go_simp
    exact ⟨⟨rfl, rfl, rfl⟩, rfl⟩
  case hi => exact Tryf.invokeError37 _ _
  case hc =>
    refine (error43 eb r d _ HE.out hr hd).mono ?_
    rintro e w₃ ⟨s, rfl, hs, rfl⟩
    apply rows_value Tryf.nextReturned
    case hr =>
      go_simp
      exact ⟨rfl, rfl⟩
    case h =>
      go_wp2
      go_ret
      refine ⟨_, _, rfl, (MapKept.heap_alloc _ _).1, textOf_size _, Nat.le_refl _, ((Below.refl _ _).alloc (Nat.le_refl _) _).drew⟩

end Go.Proofs.Qxb6614869aFmt
