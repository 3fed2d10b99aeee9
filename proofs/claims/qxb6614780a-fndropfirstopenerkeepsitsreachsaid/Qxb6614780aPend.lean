/-
  The state of a drop's loop: the stack of what is pending, the gates, and what may have turned.
-/
import Derived.Test.Qxb6614780aNew
import Derived.Test.Qxb6614780aLay
import Derived.Deep.AppendLies
namespace Go.Proofs.Qxb6614780a
open Go.RowKit

structure Env where
  Y : Lay
  w0 : World
  ub : Nat
  n : Nat
  ch : Nat → Nat
  lb : Nat
  eb : Nat
  v : Value
  r : Option (Int × ByteArray)

/-- What stays as it was, and the gates. -/
structure St (E : Env) (w : World) (s : GS) : Prop where
  gates : Gates w E.ub E.n E.ch s
  mem : Mem w E.Y E.n
  lnk : IsLinking w E.lb E.eb E.ub E.n
  rch : IsReach w E.v E.r
  kept : Kept (GS.Wr E.ub E.n E.ch) E.w0 w

section
variable {E : Env} {w w' : World} {s : GS}
/-- All blocks that the state speaks of are as they were; old ones that may not turn too. -/
theorem St.of_same (h : St E w s) (k : Kept (fun _ => False) w w') : St E w' s := by
  refine ⟨h.gates.kept k (fun h => h) (fun _ _ h => h), h.mem.of_blocks fun b c t f _ hb => k.at hb (fun h => h), k.at h.lnk (fun h => h), h.rch.kept k (fun _ _ _ h => h), h.kept.trans ⟨k.os, k.tape, k.output, k.size, fun i hi _ => k.block i hi (fun h => h)⟩⟩
theorem St.alloc (h : St E w s) (o : Obj) : St E (w.alloc o) s := h.of_same ((Kept.refl _ _).alloc o)
theorem St.drew (h : St E w s) : St E w.drew s := h.of_same (Kept.refl _ _).drew
theorem St.grown (h : St E w s) {g : Nat} {cur : Array Value} (hg : w.heap[g]? = some (.cells cur 85 (0, 0))) (hge : E.w0.heap.size ≤ g) (k : w.grownBy w' (some g)) : St E w' s := by
  have hk : ∀ {b : Nat} {o : Obj}, w.heap[b]? = some o → b ≠ g → w'.heap[b]? = some o := fun hb hne => (k.block _ (lt_of_heap hb) (by simpa using hne)).trans hb
  have hne : ∀ {b : Nat} {c : Array Value} {t : Nat} {f : Nat × Nat}, w.heap[b]? = some (.cells c t f) → t ≠ 85 → b ≠ g := by
    rintro b c t f hb ht rfl
    rw [hg] at hb; simp at hb; exact ht hb.2.1.symm
  refine ⟨?_, h.mem.of_blocks fun b c t f ht hb => hk hb (hne hb (by rcases ht with rfl | rfl | rfl <;> decide)), hk h.lnk (hne h.lnk (by decide)), ?_, h.kept.grown k (by rintro k hk; cases hk; exact .inr hge)⟩
  · obtain ⟨c, hb, _, _⟩ := h.gates.row
    refine h.gates.of_blocks (k.block _ h.gates.lt (by simpa using hne hb (by decide))) fun i hi => k.block _ (h.gates.ch_lt hi) ?_
    have hc := h.gates.chan i hi
    intro e
    simp at e
    rw [e, hg] at hc; simp at hc
  · have hr := h.rch
    unfold IsReach at hr ⊢
    match E.r, hr with
    | none, hr => exact hr
    | some (l, b), ⟨rb, hv, hb⟩ => exact ⟨rb, hv, hk hb (hne hb (by decide))⟩
theorem St.open (h : St E w s) {i : Nat} (hg : Gates w' E.ub E.n E.ch (opn E.r s i)) (k : Kept (GS.Wr E.ub E.n E.ch) w w') : St E w' (opn E.r s i) :=
  ⟨hg, h.mem.kept h.gates k, k.at h.lnk (wr_not_cells h.gates h.lnk (by decide)), h.rch.kept k (fun _ _ hb => wr_not_cells h.gates hb (by decide)), h.kept.trans k⟩
end

/-- The pending stack: row g holds the items of l. -/
def Pend (E : Env) (w : World) (g cap : Nat) (l : List (Nat × Nat × Nat)) : Prop :=
  w.ownsRow E.w0.heap.size 85 1 (.slice (some ⟨g, 0, none⟩) l.length cap) l.length (l.map E.Y.val)

section
variable {E : Env} {w w' : World} {g cap : Nat} {l : List (Nat × Nat × Nat)}
theorem Pend.row (h : Pend E w g cap l) : ∃ cur, w.heap[g]? = some (.cells cur 85 (0, 0)) ∧ E.w0.heap.size ≤ g := by
  rcases h.2 with ⟨h', _⟩ | ⟨g', cap', cur, h', hb, hg, _⟩
  · cases h'
  · cases h'; exact ⟨cur, hg, hb⟩
theorem Pend.lt (h : Pend E w g cap l) : g < w.heap.size := by obtain ⟨cur, hg, _⟩ := h.row; exact lt_of_heap hg
theorem Pend.alloc (h : Pend E w g cap l) (o : Obj) : Pend E (w.alloc o) g cap l := World.ownsRow.alloc h o
theorem Pend.of_block (h : Pend E w g cap l) (e : w'.heap[g]? = w.heap[g]?) : Pend E w' g cap l := by
  obtain ⟨h1, h2⟩ := h
  refine ⟨h1, ?_⟩
  rcases h2 with h' | ⟨g', cap', cur, h', hb, hg, r⟩
  · exact .inl h'
  · cases h'; exact .inr ⟨g, cap, cur, rfl, hb, e.trans hg, r⟩
theorem Pend.open (h : Pend E w g cap l) {s : GS} (hg : Gates w E.ub E.n E.ch s) (k : Kept (GS.Wr E.ub E.n E.ch) w w') : Pend E w' g cap l := by
  obtain ⟨cur, hc, _⟩ := h.row
  exact h.of_block (k.block g h.lt (wr_not_cells hg hc (by decide)))
theorem Pend.last {it : Nat × Nat × Nat} (h : Pend E w g cap (l ++ [it])) : w.cell? ⟨g, l.length, none⟩ = some (E.Y.val it) := by
  have h' : w.ownsRow E.w0.heap.size 85 1 (.slice (some ⟨g, 0, none⟩) (l ++ [it]).length cap) (l ++ [it]).length ((l ++ [it]).map E.Y.val) := h
  rw [h'.cellAt l.length (by simp)]
  simp
theorem Pend.pop {it : Nat × Nat × Nat} (h : Pend E w g cap (l ++ [it])) : Pend E w g cap l := by
  have h' : w.ownsRow E.w0.heap.size 85 1 (.slice (some ⟨g, 0, none⟩) (l.length + 1) cap) (l.length + 1) (l.map E.Y.val ++ [E.Y.val it]) := by simpa [Pend] using h
  exact ownsRow_pop (by simp) h'
theorem Pend.cap_le (h : Pend E w g cap l) : l.length ≤ cap ∧ cap ≤ maxLen := by
  rcases h.2 with ⟨h', _⟩ | ⟨g', cap', cur, h', hb, hg, h1, h2, _⟩
  · cases h'
  · cases h'; exact ⟨h1, h2⟩
end

end Go.Proofs.Qxb6614780a
