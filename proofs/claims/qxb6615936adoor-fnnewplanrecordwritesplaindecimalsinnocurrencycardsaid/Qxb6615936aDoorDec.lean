/-
  nbDecimal computes 'decB'.
-/
import Derived.Test.Qxb6615936aDoorRows
import Derived.Test.Qxb6615936aDoorShelf
import Derived.Test.Qxb6615936aDoorStr
import Derived.Lib.ItoaLen
import Derived.Lib.ItoaMem
import Derived.WalkKit
import Derived.ProofKit
namespace Go.Proofs.Qxb6615936aDoor
open Go.RowKit
set_option linter.unusedVariables false
set_option linter.unusedSimpArgs false

/-- A natural number's numeral; an integer's. -/
def decN (u : Nat) : ByteArray := ⟨(Lib.decDigits u).toArray⟩
def decB (a : Int) : ByteArray := if a < 0 then (⟨#[45]⟩ : ByteArray) ++ decN (-a).toNat else decN a.toNat

/-- The array behind k rounds. -/
def Digs (c : Array Value) (u k : Nat) : Prop := c.size = 20 ∧ ∀ j, j < k → c[19 - j]? = some (.int .u8 ((48 + u / 10 ^ j % 10 : Nat) : Int))

theorem Digs.step {c : Array Value} {u k : Nat} (h : Digs c u k) (hk : k < 20) : Digs (c.setIfInBounds (19 - k) (.int .u8 ((48 + u / 10 ^ k % 10 : Nat) : Int))) u (k + 1) := by
  refine ⟨by simpa using h.1, fun j hj => ?_⟩
  rw [Array.getElem?_setIfInBounds]
  by_cases e : j = k
  · subst e
    rw [if_pos rfl, if_pos (by rw [h.1]; omega)]
  · rw [if_neg (by omega), h.2 j (by omega)]

theorem decN_size (u : Nat) : (decN u).size = Lib.nDigits u := by
  rw [← Lib.decDigits_length]
  simp [decN, ByteArray.size]

def DecPost (w : World) (a : Int) (e : Ending) (w' : World) : Prop := e = .returned (.string (decB a)) ∧ ∃ c, w' = w.alloc (.cells c 53)

theorem wrap_neg (a : Int) (h : a < 0) (h0 : -9223372036854775808 ≤ a) : IntKind.u64.wrap (-IntKind.u64.wrap a) = -a := by
  have e : ∀ x : Int, IntKind.u64.wrap x = x % 18446744073709551616 := fun x => by simp [IntKind.wrap, IntKind.signed, IntKind.bits]
  rw [e, e]
  omega

theorem Digs.start (u : Nat) (c : Array Value) (h : c.size = 20) : Digs c u 0 := ⟨h, fun j hj => by omega⟩

theorem dg_toNat (u j : Nat) : (Lib.dg u j).toNat = 48 + u / 10 ^ j % 10 := by
  unfold Lib.dg
  rw [UInt8.toNat_ofNat']
  exact Nat.mod_eq_of_lt (by have := Nat.mod_lt (u / 10 ^ j) (show 0 < 10 by decide); omega)

theorem Digs.row {c : Array Value} {u : Nat} (h : Digs c u (Lib.nDigits u)) (hnd : Lib.nDigits u ≤ 20) (w : World) :
    ∀ j x, (Lib.decDigits u)[j]? = some x → (w.alloc (.cells c 53)).cell? ⟨w.heap.size, (20 - Lib.nDigits u) + j, none⟩ = some (.int .u8 (x.toNat : Int)) := by
  intro j x hx
  have hj : j < Lib.nDigits u := by
    have := (List.getElem?_eq_some_iff.1 hx).1
    rwa [Lib.decDigits_length] at this
  rw [cell_of_row (w.alloc (.cells c 53)) w.heap.size _ c 53 (0, 0) (heap_alloc_new w _)]
  rw [Lib.decDigits_eq, List.getElem?_map, List.getElem?_range hj] at hx
  simp only [Option.map_some, Option.some.injEq] at hx
  subst hx
  have := h.2 (Lib.nDigits u - 1 - j) (by omega)
  rw [show 20 - Lib.nDigits u + j = 19 - (Lib.nDigits u - 1 - j) by omega, this, dg_toNat]

theorem nd_div {v : Nat} (h : ¬ v < 10) : Lib.nDigits v = Lib.nDigits (v / 10) + 1 := Lib.nDigits_big h

/-- What the loop holds. -/
def DecRel (w : World) (u0 : Nat) (u i : Value) (wr : World) : Prop :=
  ∃ (k v : Nat) (c : Array Value), v = u0 / 10 ^ k ∧ k + Lib.nDigits v = Lib.nDigits u0 ∧ u = .int .u64 v ∧ i = .int .i64 (20 - (k : Int)) ∧ wr = w.alloc (.cells c 53) ∧ Digs c u0 k

set_option maxRecDepth 100000 in
set_option maxHeartbeats 1600000 in
theorem dec8_core (a : Int) (u0 : Nat) (hu : u0 < 18446744073709551616) (hn : a < 0 → (u0 : Int) = -a) (hp : ¬ a < 0 → (u0 : Int) = a) (ha0 : -9223372036854775808 ≤ a) (ha1 : a ≤ 9223372036854775807) (w : World) :
    Calls Tryd.prog 8 #[.int .i64 a] w (DecPost w a) := by
  have hnd := Lib.nDigits_le20 u0 hu
  have hsz := decN_size u0
  by_cases g : a < 0
  · have g1 : decide (a < 0) = true := decide_eq_true g
    have hu1 := hn g
    have hwn := wrap_neg a g ha0
    clear hn hp
    go_enter Tryd.func8, Tryd.ntmps8
    go_wp2
    go_loopw [3, 6] (fun u i wr => DecRel w u0 u i wr) (fun _ i _ => (intOf i).toNat)
    case atStart => exact ⟨0, u0, _, by simp, by simp, by rw [← hu1], rfl, rfl, Digs.start _ _ rfl⟩
    case round =>
      obtain ⟨k, v, c, hv, hk, rfl, rfl, rfl, hd⟩ := hrel
      have hpos := Lib.nDigits_pos v
      have hk20 : k < 20 := by omega
      have hvlt : v < 18446744073709551616 := by rw [hv]; exact Nat.lt_of_le_of_lt (Nat.div_le_self _ _) hu
      have hcs := hd.1
      obtain ⟨z, hz⟩ : ∃ z, c[20 - k - 1]? = some z := ⟨_, Array.getElem?_eq_getElem (by omega)⟩
      have hd1 := hd.step hk20
      rw [← hv, show 19 - k = 20 - k - 1 by omega, show ((48 + v % 10 : Nat) : Int) = 48 + (v : Int) % 10 by omega] at hd1
      have HD := Lib.hid hd1
      have HV := Lib.hid hv
      have HU := Lib.hid hu1
      clear hd hd1 hv hu1
      by_cases hb : v < 10
      · have hb1 : ((v : Int) / 10 == 0) = true := by simp; omega
        have hk1 : k + 1 = Lib.nDigits u0 := by rw [Lib.nDigits_small hb] at hk; exact hk
        have hsl : ∀ W, (Instr.sliceAt 53 (.pointer (some ⟨w.heap.size, 0, none⟩)) (some (.int .i64 (20 - (k : Int) - 1))) none none).run Tryd.prog W = .ok (.slice (some ⟨w.heap.size, 20 - k - 1, none⟩) (k + 1) (k + 1)) W := fun W => by
          have hal : Tryd.prog.arrayLen 53 = 20 := by simp [Program.arrayLen, Tryd.underlying53]
          rw [run_sliceAt_array_l W 53 ⟨w.heap.size, 0, none⟩ (by simp [Program.arrayLen, Program.elem, Tryd.underlying53]) .i64 (20 - (k : Int) - 1) (by omega) (by rw [hal]; omega)]
          go_simp
          omega
        have hcv : (convert 54 9 (.slice (some ⟨w.heap.size, 20 - k - 1, none⟩) (k + 1) (k + 1))).run Tryd.prog (w.alloc (.cells (c.setIfInBounds (20 - k - 1) (.int .u8 (48 + (v : Int) % 10))) 53)) = .ok (.string (decN u0)) (w.alloc (.cells (c.setIfInBounds (20 - k - 1) (.int .u8 (48 + (v : Int) % 10))) 53)) := by
          have h1 := HD.out
          rw [hk1] at h1
          have h2 := h1.row hnd w
          rw [← hk1, show 20 - (k + 1) = 20 - k - 1 by omega] at h2
          exact run_string _ _ _ _ _ _ (by rw [Lib.decDigits_length]; exact hk1.symm) h2
        have HK := Lib.hid hk1
        clear hk1
        go_wp2
        go_ret
        refine ⟨?_, _, rfl⟩
        have hU := HU.out
        rw [show decB a = (⟨#[45]⟩ : ByteArray) ++ decN u0 by rw [decB, if_pos g, show (-a).toNat = u0 by omega]]
        rfl
      · have hb1 : ((v : Int) / 10 == 0) = false := by simp; omega
        have hk1 := nd_div hb
        go_wp2
        refine ⟨⟨k + 1, v / 10, _, ?_, by omega, by go_num, by go_num, rfl, HD.out⟩, ?_⟩
        · rw [HV.out, Nat.div_div_eq_div_mul, Nat.pow_succ]
        · simp [intOf]; omega
  · have g1 : decide (a < 0) = false := decide_eq_false g
    have hu1 := hp g
    clear hn hp
    go_enter Tryd.func8, Tryd.ntmps8
    go_wp2
    go_loopw [3, 6] (fun u i wr => DecRel w u0 u i wr) (fun _ i _ => (intOf i).toNat)
    case atStart => exact ⟨0, u0, _, by simp, by simp, by rw [hu1], rfl, rfl, Digs.start _ _ rfl⟩
    case round =>
      obtain ⟨k, v, c, hv, hk, rfl, rfl, rfl, hd⟩ := hrel
      have hpos := Lib.nDigits_pos v
      have hk20 : k < 20 := by omega
      have hvlt : v < 18446744073709551616 := by rw [hv]; exact Nat.lt_of_le_of_lt (Nat.div_le_self _ _) hu
      have hcs := hd.1
      obtain ⟨z, hz⟩ : ∃ z, c[20 - k - 1]? = some z := ⟨_, Array.getElem?_eq_getElem (by omega)⟩
      have hd1 := hd.step hk20
      rw [← hv, show 19 - k = 20 - k - 1 by omega, show ((48 + v % 10 : Nat) : Int) = 48 + (v : Int) % 10 by omega] at hd1
      have HD := Lib.hid hd1
      have HV := Lib.hid hv
      have HU := Lib.hid hu1
      clear hd hd1 hv hu1
      by_cases hb : v < 10
      · have hb1 : ((v : Int) / 10 == 0) = true := by simp; omega
        have hk1 : k + 1 = Lib.nDigits u0 := by rw [Lib.nDigits_small hb] at hk; exact hk
        have hsl : ∀ W, (Instr.sliceAt 53 (.pointer (some ⟨w.heap.size, 0, none⟩)) (some (.int .i64 (20 - (k : Int) - 1))) none none).run Tryd.prog W = .ok (.slice (some ⟨w.heap.size, 20 - k - 1, none⟩) (k + 1) (k + 1)) W := fun W => by
          have hal : Tryd.prog.arrayLen 53 = 20 := by simp [Program.arrayLen, Tryd.underlying53]
          rw [run_sliceAt_array_l W 53 ⟨w.heap.size, 0, none⟩ (by simp [Program.arrayLen, Program.elem, Tryd.underlying53]) .i64 (20 - (k : Int) - 1) (by omega) (by rw [hal]; omega)]
          go_simp
          omega
        have hcv : (convert 54 9 (.slice (some ⟨w.heap.size, 20 - k - 1, none⟩) (k + 1) (k + 1))).run Tryd.prog (w.alloc (.cells (c.setIfInBounds (20 - k - 1) (.int .u8 (48 + (v : Int) % 10))) 53)) = .ok (.string (decN u0)) (w.alloc (.cells (c.setIfInBounds (20 - k - 1) (.int .u8 (48 + (v : Int) % 10))) 53)) := by
          have h1 := HD.out
          rw [hk1] at h1
          have h2 := h1.row hnd w
          rw [← hk1, show 20 - (k + 1) = 20 - k - 1 by omega] at h2
          exact run_string _ _ _ _ _ _ (by rw [Lib.decDigits_length]; exact hk1.symm) h2
        have HK := Lib.hid hk1
        clear hk1
        go_wp2
        go_ret
        refine ⟨?_, _, rfl⟩
        have hU := HU.out
        rw [show decB a = decN u0 by rw [decB, if_neg (by omega), show a.toNat = u0 by omega]]
        rfl
      · have hb1 : ((v : Int) / 10 == 0) = false := by simp; omega
        have hk1 := nd_div hb
        go_wp2
        refine ⟨⟨k + 1, v / 10, _, ?_, by omega, by go_num, by go_num, rfl, HD.out⟩, ?_⟩
        · rw [HV.out, Nat.div_div_eq_div_mul, Nat.pow_succ]
        · simp [intOf]; omega

theorem dec8 (a : Int) (ha0 : -9223372036854775808 ≤ a) (ha1 : a ≤ 9223372036854775807) (w : World) : Calls Tryd.prog 8 #[.int .i64 a] w (DecPost w a) :=
  dec8_core a a.natAbs (by omega) (by omega) (by omega) ha0 ha1 w
end Go.Proofs.Qxb6615936aDoor
