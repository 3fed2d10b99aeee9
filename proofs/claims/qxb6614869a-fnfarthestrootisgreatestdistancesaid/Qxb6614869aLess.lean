/-
  compareDistances and (farthestFirst).Less.
-/
import Derived.Test.Qxb6614869aRanked
namespace Go.Proofs.Qxb6614869a
open Go.RowKit

def CmpPost (x : Value) (w : World) (e : Ending) (w' : World) : Prop := e = .returned x ∧ Below w.heap.size w w'

theorem below_drewN {B : Nat} {a w : World} (h : Below B a w) (m : Nat) : Below B a (w.drewN m) := ⟨h.os, h.tape, h.output, h.size, h.block⟩

set_option maxRecDepth 100000 in
set_option maxHeartbeats 400000 in
theorem compareD_any (ca cb : Array Value) (a b : Nat → Int) (ha : Row ca a) (hb : Row cb b) (w : World) :
    Calls Try.prog 11 #[.agg ca, .agg cb] w (CmpPost (.int .i64 (cmp32 a b)) w) := by
  have fa : ((w.alloc (.cells ca 33)).alloc (.cells cb 33)).heap[w.heap.size]? = some (.cells ca 33) := by
    rw [Below.heap_alloc _ _ _ (by simp)]; exact heap_alloc_at _ _
  have fb : ((w.alloc (.cells ca 33)).alloc (.cells cb 33)).heap[w.heap.size + 1]? = some (.cells cb 33) := by
    have := heap_alloc_at (w.alloc (.cells ca 33)) (.cells cb 33); simpa using this
  have HB : Hid (Below w.heap.size w ((w.alloc (.cells ca 33)).alloc (.cells cb 33))) := ((Below.refl _ _).alloc (Nat.le_refl _) _).alloc (by simp) _
  have HA : Hid (∀ i, i < 32 → ((w.alloc (.cells ca 33)).alloc (.cells cb 33)).cell? ⟨w.heap.size, i, none⟩ = some (.int .u8 (a i))) := fun i hi => ha.cell fa hi
  have HC : Hid (∀ i, i < 32 → ((w.alloc (.cells ca 33)).alloc (.cells cb 33)).cell? ⟨w.heap.size + 1, i, none⟩ = some (.int .u8 (b i))) := fun i hi => hb.cell fb hi
  clear fa fb
  go_enter Try.func11, Try.ntmps11
  go_wp2
  go_quiet ((go_at_call 12; exact Calls.quiet_of_same (bytesCompare_any _ a b w.heap.size (w.heap.size + 1) 32 32 HA.out HC.out)))
  go_wp2
  go_ret
  exact ⟨rfl, below_drewN HB.out _⟩

theorem Row.len {c : Array Value} {a : Nat → Int} (h : Row c a) : c.toList.length = 32 := by simpa using h.size
theorem Row.one {c : Array Value} {a : Nat → Int} (h : Row c a) : ∀ v ∈ c.toList, v.oneCell' = true := by
  intro v hv
  obtain ⟨i, hi, rfl⟩ := List.getElem_of_mem hv
  have hi' : i < 32 := by rw [h.len] at hi; exact hi
  have := h.at' i hi'
  have e : c.toList[i]? = some (.int .u8 (a i)) := by simpa using this
  rw [List.getElem?_eq_getElem hi] at e
  simp at e
  simp [e]
  rfl
theorem range_below {B : Nat} {w w' : World} (h : Below B w w') {b o : Nat} {cs : List Value} (hb : b < B) (hr : w.rangeAt b o cs) : w'.rangeAt b o cs := by
  intro j v hv
  rw [h.cell (p := ⟨b, o + j, none⟩) hb]
  exact hr j v hv
theorem there_below {B : Nat} {w w' : World} (h : Below B w w') {b o n : Nat} (hb : b < B) (hr : w.there b o n) : w'.there b o n := by
  intro j hj
  rw [h.cell (p := ⟨b, o + j, none⟩) hb, h.frozen (p := ⟨b, o + j, none⟩) hb]
  exact hr j hj

/-! ### A region that draws its order, walked once, for a whole kind of worlds (Deep/Quiet.lean): one law a step. -/
section
variable {P : Program} {ops : Array Oper} {C : World → Prop} {Q : Act → Prop} {o : Oper} {rest : List Oper} {a : Act}
theorem qstep_val (hw : Region.wanted o (yielded ops a.tmps) = true) (v : Value) (h : ∀ w, C w → (execOp a.eval o).run P w = .ok (.value v) w) (hk : wpQuiet P ops C Q rest (a.put o.dst v)) : wpQuiet P ops C Q (o :: rest) a :=
  Go.BigFrame.wpQuiet_want hw fun _ hK => ⟨v, fun w hC => by unfold Oper.quietAt; rw [h w hC]; exact ⟨rfl, rfl⟩, hK _ hk⟩
theorem qstep_load (hw : Region.wanted o (yielded ops a.tmps) = true) (ty : TypeId) (x : Operand) (ho : o.op = .load ty x) (b off : Nat) (hx : a.eval x = .pointer (some ⟨b, off, none⟩)) (cs : Array Value) (d : TypeDesc)
    (hc : ∀ w, C w → w.rangeAt b off cs.toList) (hu : P.underlying ty = some d) (hd : d.isRow = true) (hi : (P.info? ty).map (·.size) = some cs.size) (hk : wpQuiet P ops C Q rest (a.put o.dst (.agg cs))) : wpQuiet P ops C Q (o :: rest) a :=
  qstep_val hw _ (fun w hC => by
    unfold execOp
    simp only [ho, hx, Sem.run_bind, run_loadAt_mid w b off ty cs.toList d (hc w hC) hu hd (by simpa using hi), Result.andThen_ok, Sem.run_pure]) hk
theorem qstep_call (hw : Region.wanted o (yielded ops a.tmps) = true) (f : FuncId) (args : Array Value) (v : Value) (h : ∀ w, C w → (execOp a.eval o).run P w = .ok (.enter f args) w)
    (hc : ∀ w, C w → Calls P f args w fun e w'' => e = .returned v ∧ C w'') (hk : wpQuiet P ops C Q rest (a.put o.dst v)) : wpQuiet P ops C Q (o :: rest) a :=
  Go.BigFrame.wpQuiet_want hw fun _ hK => ⟨v, fun w hC => by unfold Oper.quietAt; rw [h w hC]; exact ⟨rfl, hc w hC⟩, hK _ hk⟩
end

set_option maxRecDepth 100000 in
set_option maxHeartbeats 800000 in
theorem less_any (fb n cap i j : Nat) (hi : i < n) (hj : j < n) (ca cb : Array Value) (a b : Nat → Int) (ha : Row ca a) (hb : Row cb b) (w : World) (hfb : fb < w.heap.size)
    (ra : w.rangeAt fb (i * 64 + 32) ca.toList) (rb : w.rangeAt fb (j * 64 + 32) cb.toList) :
    Calls Try.prog 7 #[.slice (some ⟨fb, 0, none⟩) n cap, .int .i64 i, .int .i64 j] w (CmpPost (.bool (gt a b 32)) w) := by
  have i1 : (0 : Int) ≤ (i : Int) := by omega
  have i2 : (i : Int) < (n : Int) := by omega
  have j1 : (0 : Int) ≤ (j : Int) := by omega
  have j2 : (j : Int) < (n : Int) := by omega
  have s1 : (Try.prog.info? 33).map (·.size) = some ca.size := by rw [Try.size33, ha.size]
  have s2 : (Try.prog.info? 33).map (·.size) = some cb.size := by rw [Try.size33, hb.size]
  have HG' : Hid (decide (0 < cmp32 a b) = gt a b 32) := cmp32_gt ha hb
  go_enter Try.func7, Try.ntmps7
  go_wp2
  refine wp_region_quiet (C := Below w.heap.size w) (by kernel_rfl) (by kernel_rfl) ((Below.refl _ w).drew) ?_
  iterate 4 (refine qstep_val (by rfl) _ (by intro w hw; go_simp; with_reducible rfl) ?_; simp only [Act.put, List.setIfInBounds_toArray, List.set_cons_zero, List.set_cons_succ])
  refine qstep_load (by rfl) 33 (.tmp 10) rfl fb (i * 64 + 32) (by rfl) ca _ (fun w' h => range_below h hfb ra) Try.underlying33 rfl s1 ?_
  simp only [Act.put, List.setIfInBounds_toArray, List.set_cons_zero, List.set_cons_succ]
  iterate 4 (refine qstep_val (by rfl) _ (by intro w hw; go_simp; with_reducible rfl) ?_; simp only [Act.put, List.setIfInBounds_toArray, List.set_cons_zero, List.set_cons_succ])
  refine qstep_load (by rfl) 33 (.tmp 15) rfl fb (j * 64 + 32) (by rfl) cb _ (fun w' h => range_below h hfb rb) Try.underlying33 rfl s2 ?_
  simp only [Act.put, List.setIfInBounds_toArray, List.set_cons_zero, List.set_cons_succ]
  refine qstep_call (by rfl) 11 #[.agg ca, .agg cb] (.int .i64 (cmp32 a b)) (by intro w hw; go_simp) (fun w1 h1 => (compareD_any ca cb a b ha hb w1).mono fun e w2 h2 => ⟨h2.1, h1.trans (h2.2.mono h1.size)⟩) ?_
  simp only [Act.put, List.setIfInBounds_toArray, List.set_cons_zero, List.set_cons_succ]
  iterate 2 (refine qstep_val (by rfl) _ (by intro w hw; go_simp; with_reducible rfl) ?_; simp only [Act.put, List.setIfInBounds_toArray, List.set_cons_zero, List.set_cons_succ])
  refine wpQuiet_nil ?_
  intro w' hw'
  rw [HG'.out]
  go_wp2
  go_ret
  exact ⟨rfl, hw'⟩

end Go.Proofs.Qxb6614869a
