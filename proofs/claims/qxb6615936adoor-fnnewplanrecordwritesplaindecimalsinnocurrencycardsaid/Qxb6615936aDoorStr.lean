/-
  'string(b)': the bytes of a row.
-/
import Derived.Test.Qxb6615936aDoorRows
import Derived.Laws.BytesString
import Derived.Laws.Cells
import Derived.WalkKit
namespace Go.Proofs.Qxb6615936aDoor
open Go.RowKit

theorem push_fold (l : List UInt8) : ∀ r : ByteArray, (l.map fun x => (x.toNat : Int)).foldl (fun r n => r.push (UInt8.ofNat n.toNat)) r = ⟨r.data ++ l.toArray⟩ := by
  induction l with
  | nil => intro r; cases r; simp
  | cons x l ih =>
    intro r
    simp only [List.map_cons, List.foldl_cons]
    rw [ih]
    cases r with | mk d =>
    have hx : UInt8.ofNat ((x.toNat : Int).toNat) = x := by simp
    rw [hx]
    show (⟨d.push x ++ l.toArray⟩ : ByteArray) = ⟨d ++ (x :: l).toArray⟩
    congr 1
    apply Array.ext'
    simp

theorem add_plain (b o j : Nat) : (⟨b, o, none⟩ : Addr).add j = ⟨b, o + j, none⟩ := by
  unfold Addr.add; split <;> simp_all

theorem run_string (w : World) (b off n cap : Nat) (l : List UInt8) (hn : l.length = n) (h : ∀ j x, l[j]? = some x → w.cell? ⟨b, off + j, none⟩ = some (.int .u8 (x.toNat : Int))) :
    (convert 54 9 (.slice (some ⟨b, off, none⟩) n cap)).run Tryd.prog w = .ok (.string ⟨l.toArray⟩) w := by
  subst hn
  rw [run_convert_bytes_string w 54 9 5 (some ⟨b, off, none⟩) l.length cap Tryd.underlying54 Tryd.underlying5 Tryd.underlying9]
  have hl := run_loadCells_list (P := Tryd.prog) w ⟨b, off, none⟩ ((l.map fun x => (x.toNat : Int)).map (Value.int .u8)) (by
    intro j v hj
    simp only [List.map_map, List.getElem?_map] at hj
    cases hx : l[j]? with
    | none => rw [hx] at hj; cases hj
    | some x =>
      rw [hx] at hj
      cases hj
      rw [add_plain]
      exact h j x hx)
  have e : ((l.map fun x => (x.toNat : Int)).map (Value.int .u8)).length = l.length := by simp
  rw [e] at hl
  rw [run_bytesToString w ⟨b, off, none⟩ l.length cap _ hl, push_fold]
  have e0 : (ByteArray.empty).data = #[] := rfl
  rw [e0, Array.empty_append]
end Go.Proofs.Qxb6615936aDoor
