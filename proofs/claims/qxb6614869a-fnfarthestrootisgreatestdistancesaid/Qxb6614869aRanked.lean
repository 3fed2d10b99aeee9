/-
  ZZNewRanked: two rows of 32 bytes laid one behind the other.
-/
import Derived.Test.Qxb6614869aCompare
namespace Go.Proofs.Qxb6614869a
open Go.RowKit

theorem Try.size33 : (Try.prog.info? 33).map (·.size) = some 32 := by kernel_rfl
theorem Try.size29 : (Try.prog.info? 29).map (·.size) = some 32 := by kernel_rfl
theorem Try.size35 : (Try.prog.info? 35).map (·.size) = some 64 := by kernel_rfl
def z64 : Array Value := (List.replicate 64 (Value.int .u8 0)).toArray
theorem size_z64 : z64.size = 64 := by simp [z64]

theorem alloc35 (w : World) : (Instr.alloc 35 true (.tuple #[])).run Try.prog w = .ok (.pointer (some ⟨w.heap.size, 0, none⟩)) (w.alloc (.cells z64 35)) := by kernel_rfl
theorem build_fn (f g : Nat → Value) (w : World) : (Instr.build 35 #[(0, .agg ((List.range 32).map f).toArray), (1, .agg ((List.range 32).map g).toArray)]).run Try.prog w = .ok (.agg ((List.range 32).map f ++ (List.range 32).map g).toArray) w := by kernel_rfl
theorem by_fn (c : Array Value) (h : c.size = 32) : c = ((List.range 32).map fun i => c.getD i undef).toArray := by
  apply Array.ext
  · simp [h]
  · intro i h1 h2
    simp [Array.getD, h1]
theorem build_any (ca cb : Array Value) (ha : ca.size = 32) (hb : cb.size = 32) (w : World) : (Instr.build 35 #[(0, .agg ca), (1, .agg cb)]).run Try.prog w = .ok (.agg (ca ++ cb)) w := by
  have := build_fn (fun i => ca.getD i undef) (fun i => cb.getD i undef) w
  rw [← List.append_toArray, ← by_fn ca ha, ← by_fn cb hb] at this
  exact this

theorem range_block {w : World} {b t : Nat} {c : Array Value} {f : Nat × Nat} (hb : w.heap[b]? = some (.cells c t f)) : w.rangeAt b 0 c.toList := by
  intro j v hv
  rw [Nat.zero_add]
  simp [World.cell?, hb]
  simpa using hv
theorem there_block {w : World} {b t n : Nat} {c : Array Value} (hb : w.heap[b]? = some (.cells c t (0, 0))) (hn : c.size = n) : w.there b 0 n := by
  intro j hj
  rw [Nat.zero_add]
  have : j < c.size := by omega
  simp [World.cell?, World.frozen?, hb, this]

/-- A build of two parts, by its run. -/
theorem wpList_build2 {P : Program} {ops : Array Oper} {rest : List Oper} {o : Oper} {a : Act} {w : World} {Q : Exit → Act → World → Prop} (hg : o.guard = none) (t : TypeId) (i j : Nat) (x y : Operand) (ho : o.op = .build t #[(i, x), (j, y)])
    (vx vy : Value) (hx : a.eval x = vx) (hy : a.eval y = vy) (v : Value) (hrun : (Instr.build t #[(i, vx), (j, vy)]).run P w = .ok v w) (h : wpList P ops Q rest (a.put o.dst v) w) : wpList P ops Q (o :: rest) a w := by
  refine wpList_plain hg fun K hK => ?_
  have e : (#[(i, x), (j, y)].map fun (p : Nat × Operand) => match p with | (i, x) => (i, a.eval x)) = #[(i, vx), (j, vy)] := by simp [hx, hy]
  unfold Oper.wp execOp
  simp only [ho]
  rw [e]
  simp only [Sem.run_bind, hrun, Result.andThen_ok, Sem.run_pure]
  exact hK _ _ h

theorem below_setCells {B : Nat} {a : World} {b : Nat} (hb : B ≤ b) : ∀ (vs : List Value) (o : Nat) {w : World}, Below B a w → Below B a (w.setCells b o vs)
  | [], _, _, h => h
  | v :: r, o, _, h => below_setCells hb r (o + 1) (h.setCell (p := ⟨b, o, none⟩) hb v)

theorem results_cell1 {fn : Func} {p : Tmp} {ty : TypeId} (h : fn.results = #[.cell p ty]) (tmps : Array Value) (P : Program) (w : World) :
    (results fn tmps).run P w = ((asAddr (tmps.getD p undef)).run P w).andThen fun a w₁ => (loadVar ty a).run P w₁ := by
  simp only [results, h]
  simp [Sem.run_bind, Result.andThen]

def NewPost (c : Array Value) (w : World) (e : Ending) (w' : World) : Prop := e = .returned (.agg c) ∧ Below w.heap.size w w'

set_option maxRecDepth 100000 in
set_option maxHeartbeats 400000 in
theorem newRanked_any (ca cb : Array Value) (ha : ca.size = 32) (hb : cb.size = 32) (h1 : (ca ++ cb).all (·.oneCell') = true) (w : World) :
    Calls Try.prog 10 #[.agg ca, .agg cb] w (NewPost (ca ++ cb) w) := by
  have hi : (Try.prog.info? 33).map (·.size) = some ca.toList.length := by rw [Try.size33]; simp [ha]
  have hi' : (Try.prog.info? 33).map (·.size) = some cb.toList.length := by rw [Try.size33]; simp [hb]
  have hi2 : (Try.prog.info? 35).map (·.size) = some (ca ++ cb).size := by rw [Try.size35]; simp [ha, hb]
  have fa : (((w.alloc (.cells ca 33)).alloc (.cells cb 33)).alloc (.cells z64 35)).heap[w.heap.size]? = some (.cells ca 33) := by
    rw [Below.heap_alloc _ _ _ (by simp; omega), Below.heap_alloc _ _ _ (by simp)]; exact heap_alloc_at _ _
  have fb : (((w.alloc (.cells ca 33)).alloc (.cells cb 33)).alloc (.cells z64 35)).heap[w.heap.size + 1]? = some (.cells cb 33) := by
    rw [Below.heap_alloc _ _ _ (by simp)]; have := heap_alloc_at (w.alloc (.cells ca 33)) (.cells cb 33); simpa using this
  have fz : (((w.alloc (.cells ca 33)).alloc (.cells cb 33)).alloc (.cells z64 35)).heap[w.heap.size + 1 + 1]? = some (.cells z64 35) := by
    have := heap_alloc_at ((w.alloc (.cells ca 33)).alloc (.cells cb 33)) (.cells z64 35); simpa using this
  have hal := alloc35
  have hbl := build_any ca cb ha hb (((w.alloc (.cells ca 33)).alloc (.cells cb 33)).alloc (.cells z64 35))
  have HBL : Hid _ := hbl
  clear hbl
  have HB : Hid (Below w.heap.size w (((w.alloc (.cells ca 33)).alloc (.cells cb 33)).alloc (.cells z64 35))) := (((Below.refl _ _).alloc (Nat.le_refl _) _).alloc (by simp) _).alloc (by simp; omega) _
  have R1 := range_block fa
  have R2 := range_block fb
  have R3 := there_block fz (n := (ca ++ cb).size) (by simp [size_z64, ha, hb])
  clear fa fb fz
  go_enter Try.func10, Try.ntmps10
  go_wp2_with (refine wpList_load_mid (by rfl) 33 (.tmp 2) (by rfl) w.heap.size 0 (by rfl) ca.toList _ R1 Try.underlying33 rfl hi ?_; refine wpList_load_mid (by rfl) 33 (.tmp 3) (by rfl) (w.heap.size + 1) 0 (by rfl) cb.toList _ R2 Try.underlying33 rfl hi' ?_; refine wpList_build2 (by rfl) 35 0 1 (.tmp 5) (.tmp 6) (by rfl) (.agg ca) (.agg cb) (by rfl) (by rfl) _ HBL.out ?_; refine wpList_store_mid (by rfl) 35 (.tmp 4) (.tmp 7) (by rfl) (w.heap.size + 1 + 1) 0 (ca ++ cb) (by rfl) (by rfl) R3 hi2 h1 ?_)
  have hi3 : (Try.prog.info? 35).map (·.size) = some (ca ++ cb).toList.length := by rw [Try.size35]; simp [ha, hb]
  have R4 := run_loadVar_mid (P := Try.prog) ((((w.alloc (.cells ca 33)).alloc (.cells cb 33)).alloc (.cells z64 35)).setCells (w.heap.size + 1 + 1) 0 (ca ++ cb).toList) (w.heap.size + 1 + 1) 0 35 (ca ++ cb).toList _ (World.rangeAt_setCells_same _ _ 0 (ca ++ cb).toList (by simpa using R3)) Try.underlying35 rfl hi3
  clear R1 R2 R3 hi hi' hi2 hal HBL hi3
  show bodyPost Try.prog Try.f10 (NewPost (ca ++ cb) w) Exit.ret _ ((((w.alloc (.cells ca 33)).alloc (.cells cb 33)).alloc (.cells z64 35)).setCells (w.heap.size + 1 + 1) 0 (ca ++ cb).toList)
  refine bodyPost_ret (v := .agg (ca ++ cb)) ?_ rfl ⟨rfl, below_setCells (by omega) _ _ HB.out⟩
  rw [results_cell1 Try.results10]
  show (Sem.run Try.prog (pure (⟨w.heap.size + 1 + 1, 0, none⟩ : Addr)) _).andThen _ = _
  rw [Sem.run_pure, Result.andThen_ok]
  exact R4

end Go.Proofs.Qxb6614869a
