/-
  zzGreater: it boxes its two arrays and reckons the borrow.
-/
import Derived.Test.Qxb6614869aProg
import Derived.Test.Qxb6614869aPlain
import Derived.WalkKit
import Derived.WalkSpells
import Derived.WalkLawsBesides
import Derived.Deep.QuietTactic
import Derived.BigQuiet
namespace Go.Proofs.Qxb6614869a
open Go.RowKit

/-- 32 bytes, by index. -/
structure Row (c : Array Value) (a : Nat → Int) : Prop where
  size : c.size = 32
  at' : ∀ i, i < 32 → c[i]? = some (.int .u8 (a i))
  low : ∀ i, i < 32 → 0 ≤ a i
  high : ∀ i, i < 32 → a i ≤ 255

theorem Row.cell {c : Array Value} {a : Nat → Int} (h : Row c a) {w : World} {b t : Nat} {f : Nat × Nat} (hb : w.heap[b]? = some (.cells c t f)) {i : Nat} (hi : i < 32) : w.cell? ⟨b, i, none⟩ = some (.int .u8 (a i)) := by
  simp [World.cell?, hb, h.at' i hi]

theorem heap_alloc_at (w : World) (o : Obj) : (w.alloc o).heap[w.heap.size]? = some o := heap_alloc_new w o

def GtPost (a b : Nat → Int) (W : World) (e : Ending) (w' : World) : Prop := e = .returned (.bool (gt a b 32)) ∧ ∃ m, w' = W.drewN m

theorem bor_next (a b : Nat → Int) (q : Nat) (hq : q < 32) : bor a b 32 (32 - q) = if b q - a q - bor a b 32 (31 - q) < 0 then 1 else 0 := by
  have e : 32 - q = (31 - q) + 1 := by omega
  have e' : 32 - (31 - q + 1) = q := by omega
  rw [e]
  show (if b (32 - (31 - q + 1)) - a (32 - (31 - q + 1)) - bor a b 32 (31 - q) < 0 then (1 : Int) else 0) = _
  rw [e']

def GtRel (a b : Nat → Int) (W : World) (v5 v6 : Value) (wr : World) : Prop :=
  (∃ m, wr = W.drewN m) ∧ ((v6 = .int .i64 (-1) ∧ v5 = .int .i64 (bor a b 32 32)) ∨ ∃ q : Nat, q < 32 ∧ v6 = .int .i64 q ∧ v5 = .int .i64 (bor a b 32 (31 - q)))

theorem GtRel.next {a b : Nat → Int} {W : World} {q : Nat} (hq : q < 32) {x y : Int} (hx : x = (q : Int) - 1) (hy : bor a b 32 (32 - q) = y) (m : Nat) : GtRel a b W (.int .i64 y) (.int .i64 x) (W.drewN m) := by
  subst hx hy
  refine ⟨⟨m, rfl⟩, ?_⟩
  by_cases e : q = 0
  · subst e; exact .inl ⟨rfl, rfl⟩
  · refine .inr ⟨q - 1, by omega, ?_, ?_⟩
    · congr 1; omega
    · congr 2; omega

theorem ret_bool {a b : Bool} (h : a = b) : Ending.returned (.bool a) = .returned (.bool b) := by rw [h]

set_option maxRecDepth 100000 in
set_option maxHeartbeats 800000 in
theorem greater_any (ca cb : Array Value) (a b : Nat → Int) (ha : Row ca a) (hb : Row cb b) (w : World) :
    Calls Try.prog 8 #[.agg ca, .agg cb] w (GtPost a b ((w.alloc (.cells ca 29)).alloc (.cells cb 29))) := by
  go_enter Try.func8, Try.ntmps8
  go_wp2
  have fa : ((w.alloc (.cells ca 29)).alloc (.cells cb 29)).heap[w.heap.size]? = some (.cells ca 29) := by
    rw [Below.heap_alloc _ _ _ (by simp)]; exact heap_alloc_at _ _
  have fb : ((w.alloc (.cells ca 29)).alloc (.cells cb 29)).heap[w.heap.size + 1]? = some (.cells cb 29) := by
    have := heap_alloc_at (w.alloc (.cells ca 29)) (.cells cb 29); simpa using this
  generalize hW : (w.alloc (Obj.cells ca 29)).alloc (Obj.cells cb 29) = W at fa fb ⊢
  have HW : Hid ((w.alloc (Obj.cells ca 29)).alloc (Obj.cells cb 29) = W) := hW
  clear hW
  go_loopw [5, 6] (fun v5 v6 wr => GtRel a b W v5 v6 wr) (fun _ v6 _ => (intOf v6 + 1).toNat)
  case atStart => exact ⟨⟨0, rfl⟩, .inr ⟨31, by omega, rfl, rfl⟩⟩
  case round =>
    obtain ⟨⟨m, rfl⟩, ⟨rfl, rfl⟩ | ⟨q, hq, rfl, rfl⟩⟩ := hrel
    · clear fa fb
      go_wp2
      go_ret
      exact ⟨rfl, m, by rw [HW.out]⟩
    · have ca' := ha.cell fa hq
      have cb' := hb.cell fb hq
      have la := ha.low q hq
      have ua := ha.high q hq
      have lb := hb.low q hq
      have ub := hb.high q hq
      have i1 : (0 : Int) ≤ (q : Int) := by omega
      have i2 : (q : Int) < 32 := by omega
      have hn := bor_next a b q hq
      have h01 := bor_01 a b 32 (31 - q)
      have HN : Hid (bor a b 32 (32 - q) = if b q - a q - bor a b 32 (31 - q) < 0 then 1 else 0) := hn
      have l3 : 0 ≤ bor a b 32 (31 - q) := by omega
      have u3 : bor a b 32 (31 - q) ≤ 1 := by omega
      clear fa fb hn h01
      by_cases hlt : b q - a q - bor a b 32 (31 - q) < 0
      · go_wp2
        go_quiet (fail)
        go_wp2
        go_roundw
        case rel => exact GtRel.next hq (by omega) (by rw [HN.out, if_pos hlt]) _
        case measure => simp [intOf]
      · go_wp2
        go_quiet (fail)
        go_wp2
        go_roundw
        case rel => exact GtRel.next hq (by omega) (by rw [HN.out, if_neg (by omega)]) _
        case measure => simp [intOf]
end Go.Proofs.Qxb6614869a
