/-
  A look-up in a map[string]bool that the call itself has made; the state of mapping's loop.
-/
import Derived.Test.Qxb6614869aFmtU16
import Derived.Maps.Own
import Derived.Maps.OwnOps
import Derived.Maps.OwnSet
namespace Go.Proofs.Qxb6614869aFmt
open Go.RowKit Go.Extern.Stop Go.Stop Go.Extern Go.Kit
open Go.Maps (Keyed)
set_option linter.unusedVariables false
set_option linter.unusedSimpArgs false

theorem plainElem_bool_inv {H : Type} {P : Program} {e : TypeId} (he : P.underlying e = some .bool) {v : Value} {z : DataW H × List MemPlace} (h : plainElem P e v = some z) : ∃ x, v = .bool x := by
  unfold plainElem at h
  rw [he] at h
  cases v <;> simp at h
  exact ⟨_, rfl⟩

/-- 'm[k]' at elements of type bool: some bool; the world does not turn -/
theorem wpList_lookup_own_bool {H : Type} {P : Program} (w : World) {ops : Array Oper} {rest : List Oper} {o : Oper} {a : Act} {Q : Exit → Act → World → Prop}
    (hg : o.guard = none) (m x : Operand) (t : TypeId) (hop : o.op = Op.lookup t m x false)
    (k e : TypeId) (K : Keyed P k) (ht : P.underlying t = some (.map k e)) (he : P.underlying e = some .bool) (hz : (zeroValue e).run P w = .ok (.bool false) w) (b n : Nat) (D : DataW H)
    (hm : a.eval m = .map (some b)) (hown : w.ownsMap P k (plainElem P e) b n D) (key : Value) (kl : Lit) (hx : a.eval x = key) (hkey : keyOf P k key = some kl)
    (hK : ∀ c : Bool, wpList P ops Q rest (a.put o.dst (.bool c)) w) :
    wpList P ops Q (o :: rest) a w := by
  refine wpList_plain hg fun K' hK' => ?_
  obtain ⟨v, ps, hrun, hv⟩ := hown.lookup K ht hz (plainElem_bool he false) hkey
  obtain ⟨c, rfl⟩ := plainElem_bool_inv he hv
  unfold Oper.wp
  simp [execOp, hop, hm, hx, hrun, Result.andThen]
  exact hK' _ _ (hK c)

theorem zero4 (w : World) : (zeroValue 4).run Tryf.prog w = .ok (.bool false) w := by kernel_rfl
theorem key9 (a : ByteArray) (h : a.size ≤ 255) : keyOf Tryf.prog 9 (.string a) = some (.string a.data.toList) := by
  have h2 : a.size ≤ maxLen := by unfold maxLen; omega
  exact WideMaps.keyOf_string_mk Tryf.underlying9 h2
theorem keyed9 : Keyed Tryf.prog 9 := Maps.string_keyed Tryf.underlying9

end Go.Proofs.Qxb6614869aFmt
