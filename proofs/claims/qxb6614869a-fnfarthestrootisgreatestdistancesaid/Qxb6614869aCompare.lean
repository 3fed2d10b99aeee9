/-
  bytes.Compare over two rows of 32 bytes, and compareDistances.
-/
import Derived.Test.Qxb6614869aGreater
import Derived.Lib.Bytealg
import Derived.Lib.BytesEntry
import Derived.Deep.RegionHeld3
namespace Go.Proofs.Qxb6614869a
open Go.RowKit

def byteRow (a : Nat → Int) (k m : Nat) : List UInt8 := Lib.bytesOf ((List.range' k m).map a)
def cmp32 (a b : Nat → Int) : Int := Lib.compareBytes (byteRow a 0 32) (byteRow b 0 32)

theorem u8_lt (x y : Int) (hx : 0 ≤ x) (hx' : x ≤ 255) (hy : 0 ≤ y) (hy' : y ≤ 255) : (x.toNat.toUInt8 < y.toNat.toUInt8) ↔ x < y := by
  rw [UInt8.lt_iff_toNat_lt]
  have e1 : (x.toNat.toUInt8).toNat = x.toNat := by
    show (UInt8.ofNat x.toNat).toNat = _
    rw [UInt8.toNat_ofNat']; omega
  have e2 : (y.toNat.toUInt8).toNat = y.toNat := by
    show (UInt8.ofNat y.toNat).toNat = _
    rw [UInt8.toNat_ofNat']; omega
  rw [e1, e2]; omega

theorem compare_gt (a b : Nat → Int) (n : Nat) (ha : ∀ i, i < n → 0 ≤ a i ∧ a i ≤ 255) (hb : ∀ i, i < n → 0 ≤ b i ∧ b i ≤ 255) : ∀ m k, k + m = n → (0 < Lib.compareBytes (byteRow a k m) (byteRow b k m) ↔ gtFrom a b n k) := by
  intro m
  induction m with
  | zero =>
    intro k hk
    refine ⟨fun h => by simp [byteRow, Lib.bytesOf, Lib.compareBytes] at h, fun ⟨i, h1, h2, _⟩ => by omega⟩
  | succ m ih =>
    intro k hk
    have ih := ih (k + 1) (by omega)
    obtain ⟨a1, a2⟩ := ha k (by omega)
    obtain ⟨b1, b2⟩ := hb k (by omega)
    rw [gtFrom_step a b n k (by omega), ← ih]
    have e : ∀ f : Nat → Int, byteRow f k (m + 1) = (f k).toNat.toUInt8 :: byteRow f (k + 1) m := fun f => by simp [byteRow, Lib.bytesOf, List.range'_succ]
    rw [e a, e b]
    show 0 < (if _ then (-1 : Int) else if _ then 1 else _) ↔ _
    have q1 := u8_lt _ _ a1 a2 b1 b2
    have q2 := u8_lt _ _ b1 b2 a1 a2
    by_cases h1 : a k < b k
    · rw [if_pos (q1.2 h1)]; omega
    · rw [if_neg (fun h => h1 (q1.1 h))]
      by_cases h2 : b k < a k
      · rw [if_pos (q2.2 h2)]; omega
      · rw [if_neg (fun h => h2 (q2.1 h))]; omega

theorem cmp32_gt {ca cb : Array Value} {a b : Nat → Int} (ha : Row ca a) (hb : Row cb b) : decide (0 < cmp32 a b) = gt a b 32 := by
  have := compare_gt a b 32 (fun i hi => ⟨ha.low i hi, ha.high i hi⟩) (fun i hi => ⟨hb.low i hi, hb.high i hi⟩) 32 0 rfl
  rw [Bool.eq_iff_iff, decide_eq_true_iff, gt_iff]
  exact this

theorem compare_entry {P : Program} (w : World) (a b : Nat → Int) (pa pb n c d : Nat) (ha : ∀ i, i < n → w.cell? ⟨pa, i, none⟩ = some (.int .u8 (a i))) (hb : ∀ i, i < n → w.cell? ⟨pb, i, none⟩ = some (.int .u8 (b i))) :
    (Extern.BytealgCompare.compare #[.slice (some ⟨pa, 0, none⟩) n c, .slice (some ⟨pb, 0, none⟩) n d]).run P w = .ok (.int .i64 (Lib.compareBytes (byteRow a 0 n) (byteRow b 0 n))) w := by
  have key : ∀ (f : Nat → Int) (p : Nat), (∀ i, i < n → w.cell? ⟨p, i, none⟩ = some (.int .u8 (f i))) → (Extern.Bytes.loadBytes ⟨p, 0, none⟩ n .empty).run P w = .ok ⟨(byteRow f 0 n).toArray⟩ w := by
    intro f p hf
    have := Lib.run_loadBytesX (P := P) w ((List.range' 0 n).map f) ⟨p, 0, none⟩ .empty (fun j x hj => by
      rw [List.getElem?_map, Option.map_eq_some_iff] at hj
      obtain ⟨i, hi, rfl⟩ := hj
      rw [List.getElem?_eq_some_iff] at hi
      obtain ⟨hlt, hi⟩ := hi
      have hlt' : j < n := by simpa using hlt
      have hi' : j = i := by simpa using hi
      subst hi'
      have e : (⟨p, 0, none⟩ : Addr).add j = ⟨p, j, none⟩ := by unfold Addr.add; split <;> simp_all
      rw [e]; exact hf j hlt')
    rw [List.length_map, List.length_range'] at this
    rw [this]
    congr 2
    show (#[] : Array UInt8) ++ _ = _
    simp [byteRow]
  change Sem.run P (do pure (goInt (Extern.BytealgCompare.cmp (← Extern.Bytes.bytesOf (.slice (some ⟨pa, 0, none⟩) n c)) (← Extern.Bytes.bytesOf (.slice (some ⟨pb, 0, none⟩) n d))))) w = _
  simp only [Extern.Bytes.bytesOf, Sem.run_bind, key a pa ha, key b pb hb, Sem.run_pure, Result.andThen]
  rw [Lib.cmp_eq]
  rfl

theorem compare_call (w : World) (a b : Nat → Int) (pa pb c d : Nat) (ha : ∀ i, i < 32 → w.cell? ⟨pa, i, none⟩ = some (.int .u8 (a i))) (hb : ∀ i, i < 32 → w.cell? ⟨pb, i, none⟩ = some (.int .u8 (b i))) :
    (callFunc 13 #[.slice (some ⟨pa, 0, none⟩) 32 c, .slice (some ⟨pb, 0, none⟩) 32 d]).run Try.prog w = .ok (.value (.int .i64 (cmp32 a b))) w := by
  rw [run_callFunc_extern Try.func13 (by kernel_rfl) (by kernel_rfl) (by kernel_rfl) (e := Extern.BytealgCompare.compare) (by kernel_rfl), compare_entry w a b pa pb 32 c d ha hb]
  rfl

theorem bytesCompare_any (w : World) (a b : Nat → Int) (pa pb c d : Nat) (ha : ∀ i, i < 32 → w.cell? ⟨pa, i, none⟩ = some (.int .u8 (a i))) (hb : ∀ i, i < 32 → w.cell? ⟨pb, i, none⟩ = some (.int .u8 (b i))) :
    Calls Try.prog 12 #[.slice (some ⟨pa, 0, none⟩) 32 c, .slice (some ⟨pb, 0, none⟩) 32 d] w fun e w' => e = .returned (.int .i64 (cmp32 a b)) ∧ w' = w := by
  have hc := compare_call w a b pa pb c d ha hb
  clear ha hb
  go_enter Try.func12, Try.ntmps12
  go_wp2
  go_ret
  exact ⟨rfl, rfl⟩

end Go.Proofs.Qxb6614869a
