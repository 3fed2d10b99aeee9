/-
  The law's walk.
-/
import Derived.Test.Qxb6615936aDoorLaw
namespace Go.Proofs.Qxb6615936aDoor
open Go.RowKit Go.Sort
set_option linter.unusedVariables false
set_option linter.unusedSimpArgs false

def LawPost (w : World) (e : Ending) (w' : World) : Prop := e = .returned (.bool true) ∧ Below w.heap.size w w'

theorem RecTo.later {id acc : ByteArray} {am it vs : Int} {len : Nat} {A : Nat → Int} {qb rb : Nat} {w W W' : World} {k : Nat} (h : RecTo id acc am it vs len A qb rb w W k) (hb : Below W.heap.size W W') : RecTo id acc am it vs len A qb rb w W' k :=
  ⟨h.bel.trans (hb.mono h.bel.size), (hb.block _ (Array.getElem?_eq_some_iff.1 h.recd).1).trans h.recd, h.rows.of_block (hb.block _ h.lt), Nat.lt_of_lt_of_le h.lt hb.size⟩

theorem DecPost.below {w w' : World} {a : Int} {e : Ending} (h : DecPost w a e w') : e = .returned (.string (decB a)) ∧ Below w.heap.size w w' := by
  obtain ⟨h1, c, rfl⟩ := h
  exact ⟨h1, (Below.refl _ _).alloc (Nat.le_refl _) _⟩

set_option maxHeartbeats 3200000 in
set_option maxRecDepth 100000 in
theorem law3 (id acc : ByteArray) (am it vs : Int) (ao : Option Addr) (b off len cap : Nat) (A : Nat → Int) (w : World) (ha : Amts w ao b off len A) (h1 : id.size ≤ maxLen) (h2 : acc.size ≤ maxLen) (h3 : len ≤ maxLen)
    (ha0 : -9223372036854775808 ≤ am) (ha1 : am ≤ 9223372036854775807) (hi0 : -9223372036854775808 ≤ it) (hi1 : it ≤ 9223372036854775807)
    (htab : ∀ W, Below w.heap.size w W → Tab W) :
    Calls Tryd.prog 3 #[.string id, .string acc, .int .i64 am, .int .i64 it, .int .i64 vs, .slice ao len cap] w (LawPost w) := by
  have HB := Lib.hid (bytes5 id acc am it vs ao len cap w h1 h2 h3)
  have HT := Lib.hid htab
  have HA := Lib.hid ha
  unfold maxLen at h1 h2 h3
  clear htab ha
  go_enter Tryd.func3, Tryd.ntmps3
  go_wp2_with fail
  refine Calls.mono HB.out ?_
  rintro e wq ⟨r, rfl, hwq⟩
  subst wq
  cases r
  · go_wp2
    go_ret
    exact ⟨rfl, Below.refl _ _⟩
  by_cases g1 : id.size ≤ 262144
  rotate_left
  · have e1 : decide ((262144 : Int) < (id.size : Int)) = true := by simp; omega
    go_wp2
    go_ret
    exact ⟨rfl, Below.refl _ _⟩
  have e1 : decide ((262144 : Int) < (id.size : Int)) = false := by simp; omega
  by_cases g2 : acc.size ≤ 262144
  rotate_left
  · have e2 : decide ((262144 : Int) < (acc.size : Int)) = true := by simp; omega
    go_wp2
    go_ret
    exact ⟨rfl, Below.refl _ _⟩
  have e2 : decide ((262144 : Int) < (acc.size : Int)) = false := by simp; omega
  by_cases g3 : len ≤ 65536
  rotate_left
  · have e3 : decide ((65536 : Int) < (len : Int)) = true := by simp; omega
    go_wp2
    go_ret
    exact ⟨rfl, Below.refl _ _⟩
  have e3 : decide ((65536 : Int) < (len : Int)) = false := by simp; omega
  have hA0 : ∀ k, k < len → -9223372036854775808 ≤ A k := HA.out.low
  have hA1 : ∀ k, k < len → A k ≤ 9223372036854775807 := HA.out.high
  have HC := Lib.hid (plan7 id acc am it vs ao b off len cap A w HA.out g3)
  go_wp2_with fail
  refine Calls.mono HC.out ?_
  rintro e w1 ⟨pb, ib, rfl, hP, hb1⟩
  have HR := Lib.hid (record6 id acc am it vs len A pb w1 (record10 id acc am it vs len A pb ib w1 hP g3 ha0 ha1 hi0 hi1 hA0 hA1 (fun W hW => HT.out W (hb1.trans (hW.mono hb1.size)))))
  have HB1 := Lib.hid hb1
  clear hP hb1 HC HB
  go_wp2_with fail
  refine Calls.mono HR.out ?_
  rintro e w2 ⟨qb, rb, rfl, hQ⟩
  have hB2 : Below w.heap.size w w2 := HB1.out.trans (hQ.bel.mono HB1.out.size)
  have hc0 : w2.cell? ⟨qb, 0, none⟩ = some (.string id) := cell_of_row w2 qb 0 _ _ _ hQ.recd
  have hc1 : w2.cell? ⟨qb, 1, none⟩ = some (.string acc) := cell_of_row w2 qb 1 _ _ _ hQ.recd
  have hc2 : w2.cell? ⟨qb, 2, none⟩ = some (.string ⟨#[]⟩) := cell_of_row w2 qb 2 _ _ _ hQ.recd
  have hc5 : w2.cell? ⟨qb, 5, none⟩ = some (.string ⟨#[]⟩) := cell_of_row w2 qb 5 _ _ _ hQ.recd
  have hc6 : w2.cell? ⟨qb, 6, none⟩ = some (.int .i64 vs) := cell_of_row w2 qb 6 _ _ _ hQ.recd
  have hL : RecTo id acc am it vs len A qb rb w w2 len := ⟨hB2, hQ.recd, hQ.rows, hQ.lt⟩
  clear hQ hB2 HR HB1
  have HL := Lib.hid hL
  clear hL
  go_upto_region 10 with fail
  refine wp_region_held_drew (S := fun W => RecTo id acc am it vs len A qb rb w W len) (by kernel_rfl) (HL.out.later (Below.refl _ _).drew) (fun hHeld => ?_)
  refine take_val (i := 0) rfl (by kernel_rfl) (by kernel_rfl) (by kernel_rfl) (fun _ _ _ h => h) (by rfl) (by intro w hw; go_simp; with_reducible rfl) (by assumption) ?_
  simp only [Act.put, List.setIfInBounds_toArray, List.set_cons_zero, List.set_cons_succ]
  refine take_val (i := 1) rfl (by kernel_rfl) (by kernel_rfl) (by kernel_rfl) (fun _ _ _ h => h) (by rfl) (by intro w hw; go_simp; with_reducible rfl) (by assumption) ?_
  simp only [Act.put, List.setIfInBounds_toArray, List.set_cons_zero, List.set_cons_succ]
  refine take_val (i := 2) rfl (by kernel_rfl) (by kernel_rfl) (by kernel_rfl) (fun _ _ _ h => h) (by rfl) (by intro w hw; go_simp; with_reducible rfl) (by assumption) ?_
  simp only [Act.put, List.setIfInBounds_toArray, List.set_cons_zero, List.set_cons_succ]
  refine take_val (i := 3) (v := .string (decB am)) rfl (by kernel_rfl) (by kernel_rfl) (by kernel_rfl) (fun _ _ _ h => h) (by rfl) (by
    intro w1 hw
    have hc0 : w1.cell? ⟨qb, 3, none⟩ = some (.string (decB am)) := cell_of_row w1 qb 3 _ _ _ hw.recd
    go_simp) (by assumption) ?_
  simp only [Act.put, List.setIfInBounds_toArray, List.set_cons_zero, List.set_cons_succ]
  refine take_val (i := 4) rfl (by kernel_rfl) (by kernel_rfl) (by kernel_rfl) (fun _ _ _ h => h) (by rfl) (by intro w hw; go_simp; with_reducible rfl) (by assumption) ?_
  simp only [Act.put, List.setIfInBounds_toArray, List.set_cons_zero, List.set_cons_succ]
  refine one_call (i := 5) rfl (by kernel_rfl) (by rfl) 8 #[.int .i64 am] (by go_simp) ?_
  refine (dec8 am ha0 ha1 _).mono ?_
  intro e w3 hd3
  obtain ⟨rfl, hb3⟩ := hd3.below
  have hL3 := hHeld.later hb3
  refine ⟨_, rfl, hL3, ?_⟩
  simp only [Act.put, List.setIfInBounds_toArray, List.set_cons_zero, List.set_cons_succ]
  refine take_val (i := 6) rfl (by kernel_rfl) (by kernel_rfl) (by kernel_rfl) (fun _ _ _ h => h) (by rfl) (by intro w hw; go_simp; with_reducible rfl) (by assumption) ?_
  simp only [Act.put, List.setIfInBounds_toArray, List.set_cons_zero, List.set_cons_succ]
  refine wpAnyH_done (by kernel_rfl) ?_ _
  replace HL := Lib.hid hL3
  clear hL3 hHeld hb3 hd3 hc0 hc1 hc2 hc5 hc6
  go_upto_if 91 with fail
  go_cut [14] (fun v wx => v = .string (itStr it) ∧ RecTo id acc am it vs len A qb rb w wx len)
  case first =>
    by_cases z : it = 0
    · have zb : (it != 0) = false := by simp [z]
      have zs : Hid (itStr it = ⟨#[]⟩) := by rw [itStr, if_pos z]; exact rfl
      clear z
      go_wp2
      go_meet
      case rel => exact ⟨by rw [zs.out], HL.out⟩
    · have zb : (it != 0) = true := by simp [z]
      have zs : Hid (itStr it = decB it) := by rw [itStr, if_neg z]; exact rfl
      go_wp2_with fail
      refine (dec8 it hi0 hi1 _).mono ?_
      intro e w4 hd4
      obtain ⟨rfl, hb4⟩ := hd4.below
      have HL4 := Lib.hid (HL.out.later hb4)
      clear hb4 hd4
      go_wp2
      go_meet
      case rel => exact ⟨by rw [zs.out], HL4.out⟩
  case rest =>
    obtain ⟨rfl, hLc⟩ := hcut
    have hc4 : wc.cell? ⟨qb, 4, none⟩ = some (.string (itStr it)) := cell_of_row wc qb 4 _ _ _ hLc.recd
    have hc7 : wc.cell? ⟨qb, 7, none⟩ = some (.slice (some ⟨rb, 0, none⟩) len len) := cell_of_row wc qb 7 _ _ _ hLc.recd
    have HLc := Lib.hid hLc
    clear hLc HL
    go_wp2
    go_loopw [15] (fun i wr => ∃ k : Nat, k ≤ len ∧ i = .int .i64 k ∧ RecTo id acc am it vs len A qb rb w wr len) (fun i _ => len - (intOf i).toNat)
    case atStart => exact ⟨0, Nat.zero_le _, rfl, HLc.out⟩
    case round =>
      obtain ⟨k, hk, rfl, hR⟩ := hrel
      clear HLc hc4 hc7
      have HR := Lib.hid hR
      clear hR
      by_cases hlt : k < len
      · go_wp2
        have hi28 := index28 (ib := rb) hlt
        have hi22 := index22 (HA.out.addr (by omega)) hlt cap
        refine wp_region_held_drew (S := fun W => RecTo id acc am it vs len A qb rb w W len) (by kernel_rfl) (HR.out.later (Below.refl _ _).drew) (fun hHeld => ?_)
        refine take_val (i := 0) rfl (by kernel_rfl) (by kernel_rfl) (by kernel_rfl) (fun _ _ _ h => h) (by rfl) (by intro w hw; go_simp; with_reducible rfl) (by assumption) ?_
        simp only [Act.put, List.setIfInBounds_toArray, List.set_cons_zero, List.set_cons_succ]
        refine take_val (i := 1) rfl (by kernel_rfl) (by kernel_rfl) (by kernel_rfl) (fun _ _ _ h => h) (by rfl) (by intro w hw; go_simp; with_reducible rfl) (by assumption) ?_
        simp only [Act.put, List.setIfInBounds_toArray, List.set_cons_zero, List.set_cons_succ]
        refine take_val (i := 2) rfl (by kernel_rfl) (by kernel_rfl) (by kernel_rfl) (fun _ _ _ h => h) (by rfl) (by intro w hw; go_simp; with_reducible rfl) (by assumption) ?_
        simp only [Act.put, List.setIfInBounds_toArray, List.set_cons_zero, List.set_cons_succ]
        refine take_val (i := 3) (v := .slice (some ⟨rb, 0, none⟩) len len) rfl (by kernel_rfl) (by kernel_rfl) (by kernel_rfl) (fun _ _ _ h => h) (by rfl) (by
          intro w1 hw
          have hc0 : w1.cell? ⟨qb, 7, none⟩ = some (.slice (some ⟨rb, 0, none⟩) len len) := cell_of_row w1 qb 7 _ _ _ hw.recd
          go_simp) (by assumption) ?_
        simp only [Act.put, List.setIfInBounds_toArray, List.set_cons_zero, List.set_cons_succ]
        refine take_val (i := 4) rfl (by kernel_rfl) (by kernel_rfl) (by kernel_rfl) (fun _ _ _ h => h) (by rfl) (by intro w hw; go_simp; with_reducible rfl) (by assumption) ?_
        simp only [Act.put, List.setIfInBounds_toArray, List.set_cons_zero, List.set_cons_succ]
        refine take_val (i := 5) rfl (by kernel_rfl) (by kernel_rfl) (by kernel_rfl) (fun _ _ _ h => h) (by rfl) (by intro w hw; go_simp; with_reducible rfl) (by assumption) ?_
        simp only [Act.put, List.setIfInBounds_toArray, List.set_cons_zero, List.set_cons_succ]
        refine take_val (i := 6) rfl (by kernel_rfl) (by kernel_rfl) (by kernel_rfl) (fun _ _ _ h => h) (by rfl) (by intro w hw; go_simp; with_reducible rfl) (by assumption) ?_
        simp only [Act.put, List.setIfInBounds_toArray, List.set_cons_zero, List.set_cons_succ]
        refine take_val (i := 7) (v := .string ⟨#[48, 48, 48, 48, 45, 48, 48, 45, 48, 48]⟩) rfl (by kernel_rfl) (by kernel_rfl) (by kernel_rfl) (fun _ _ _ h => h) (by rfl) (by
          intro w1 hw
          have hc0 : w1.cell? ⟨rb, k * 2, none⟩ = some (.string ⟨#[48, 48, 48, 48, 45, 48, 48, 45, 48, 48]⟩) := hw.rows.cell k hlt 0 _ rfl
          go_simp) (by assumption) ?_
        simp only [Act.put, List.setIfInBounds_toArray, List.set_cons_zero, List.set_cons_succ]
        refine take_val (i := 8) (v := .bool false) rfl (by kernel_rfl) (by kernel_rfl) (by kernel_rfl) (fun _ _ _ h => h) (by rfl) (by intro w hw; go_simp <;> first | rfl | decide) (by assumption) ?_
        simp only [Act.put, List.setIfInBounds_toArray, List.set_cons_zero, List.set_cons_succ]
        refine take_val (i := 9) rfl (by kernel_rfl) (by kernel_rfl) (by kernel_rfl) (fun _ _ _ h => h) (by rfl) (by intro w hw; go_simp; with_reducible rfl) (by assumption) ?_
        simp only [Act.put, List.setIfInBounds_toArray, List.set_cons_zero, List.set_cons_succ]
        refine take_val (i := 10) rfl (by kernel_rfl) (by kernel_rfl) (by kernel_rfl) (fun _ _ _ h => h) (by rfl) (by intro w hw; go_simp; with_reducible rfl) (by assumption) ?_
        simp only [Act.put, List.setIfInBounds_toArray, List.set_cons_zero, List.set_cons_succ]
        refine take_val (i := 11) rfl (by kernel_rfl) (by kernel_rfl) (by kernel_rfl) (fun _ _ _ h => h) (by rfl) (by intro w hw; go_simp; with_reducible rfl) (by assumption) ?_
        simp only [Act.put, List.setIfInBounds_toArray, List.set_cons_zero, List.set_cons_succ]
        refine take_val (i := 12) rfl (by kernel_rfl) (by kernel_rfl) (by kernel_rfl) (fun _ _ _ h => h) (by rfl) (by intro w hw; go_simp; with_reducible rfl) (by assumption) ?_
        simp only [Act.put, List.setIfInBounds_toArray, List.set_cons_zero, List.set_cons_succ]
        refine take_val (i := 13) (v := .slice (some ⟨rb, 0, none⟩) len len) rfl (by kernel_rfl) (by kernel_rfl) (by kernel_rfl) (fun _ _ _ h => h) (by rfl) (by
          intro w1 hw
          have hc0 : w1.cell? ⟨qb, 7, none⟩ = some (.slice (some ⟨rb, 0, none⟩) len len) := cell_of_row w1 qb 7 _ _ _ hw.recd
          go_simp) (by assumption) ?_
        simp only [Act.put, List.setIfInBounds_toArray, List.set_cons_zero, List.set_cons_succ]
        refine take_val (i := 14) rfl (by kernel_rfl) (by kernel_rfl) (by kernel_rfl) (fun _ _ _ h => h) (by rfl) (by intro w hw; go_simp; with_reducible rfl) (by assumption) ?_
        simp only [Act.put, List.setIfInBounds_toArray, List.set_cons_zero, List.set_cons_succ]
        refine take_val (i := 15) rfl (by kernel_rfl) (by kernel_rfl) (by kernel_rfl) (fun _ _ _ h => h) (by rfl) (by intro w hw; go_simp; with_reducible rfl) (by assumption) ?_
        simp only [Act.put, List.setIfInBounds_toArray, List.set_cons_zero, List.set_cons_succ]
        refine take_val (i := 16) rfl (by kernel_rfl) (by kernel_rfl) (by kernel_rfl) (fun _ _ _ h => h) (by rfl) (by intro w hw; go_simp; with_reducible rfl) (by assumption) ?_
        simp only [Act.put, List.setIfInBounds_toArray, List.set_cons_zero, List.set_cons_succ]
        refine take_val (i := 17) (v := .string (decB (A k))) rfl (by kernel_rfl) (by kernel_rfl) (by kernel_rfl) (fun _ _ _ h => h) (by rfl) (by
          intro w1 hw
          have hc0 : w1.cell? ⟨rb, k * 2 + 1, none⟩ = some (.string (decB (A k))) := hw.rows.cell k hlt 1 _ rfl
          go_simp) (by assumption) ?_
        simp only [Act.put, List.setIfInBounds_toArray, List.set_cons_zero, List.set_cons_succ]
        refine take_val (i := 18) rfl (by kernel_rfl) (by kernel_rfl) (by kernel_rfl) (fun _ _ _ h => h) (by rfl) (by intro w hw; go_simp; with_reducible rfl) (by assumption) ?_
        simp only [Act.put, List.setIfInBounds_toArray, List.set_cons_zero, List.set_cons_succ]
        refine take_val (i := 19) rfl (by kernel_rfl) (by kernel_rfl) (by kernel_rfl) (fun _ _ _ h => h) (by rfl) (by intro w hw; go_simp; with_reducible rfl) (by assumption) ?_
        simp only [Act.put, List.setIfInBounds_toArray, List.set_cons_zero, List.set_cons_succ]
        refine take_val (i := 20) rfl (by kernel_rfl) (by kernel_rfl) (by kernel_rfl) (fun _ _ _ h => h) (by rfl) (by intro w hw; go_simp; with_reducible rfl) (by assumption) ?_
        simp only [Act.put, List.setIfInBounds_toArray, List.set_cons_zero, List.set_cons_succ]
        refine take_val (i := 21) (v := .int .i64 (A k)) rfl (by kernel_rfl) (by kernel_rfl) (by kernel_rfl) (fun _ _ _ h => h) (by rfl) (by
          intro w1 hw
          have hc0 : w1.cell? ⟨b, off + k, none⟩ = some (.int .i64 (A k)) := (hw.bel.cell (p := ⟨b, off + k, none⟩) (HA.out.lt (by omega))).trans (HA.out.cell k hlt)
          go_simp) (by assumption) ?_
        simp only [Act.put, List.setIfInBounds_toArray, List.set_cons_zero, List.set_cons_succ]
        refine one_call (i := 22) rfl (by kernel_rfl) (by rfl) 8 #[.int .i64 (A k)] (by go_simp) ?_
        refine (dec8 (A k) (hA0 k hlt) (hA1 k hlt) _).mono ?_
        intro e w5 hd5
        obtain ⟨rfl, hb5⟩ := hd5.below
        have hL5 := hHeld.later hb5
        refine ⟨_, rfl, hL5, ?_⟩
        simp only [Act.put, List.setIfInBounds_toArray, List.set_cons_zero, List.set_cons_succ]
        refine take_val (i := 23) rfl (by kernel_rfl) (by kernel_rfl) (by kernel_rfl) (fun _ _ _ h => h) (by rfl) (by intro w hw; go_simp; with_reducible rfl) (by assumption) ?_
        simp only [Act.put, List.setIfInBounds_toArray, List.set_cons_zero, List.set_cons_succ]
        refine take_val (i := 24) rfl (by kernel_rfl) (by kernel_rfl) (by kernel_rfl) (fun _ _ _ h => h) (by rfl) (by intro w hw; go_simp; with_reducible rfl) (by assumption) ?_
        simp only [Act.put, List.setIfInBounds_toArray, List.set_cons_zero, List.set_cons_succ]
        refine wpAnyH_done (by kernel_rfl) ?_ _
        replace HR := Lib.hid hL5
        clear hL5 hHeld hb5 hd5 hi28 hi22
        go_wp2
        go_roundw
        case rel => exact ⟨k + 1, by omega, by go_num, HR.out⟩
        case measure => simp [intOf]; omega
      · have : k = len := by omega
        subst this
        go_wp2
        go_ret
        exact ⟨rfl, HR.out.bel⟩
end Go.Proofs.Qxb6615936aDoor
