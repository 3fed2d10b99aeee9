import Derived.Test.Qxb6614869aHeap
namespace Go.Proofs.Qxb6614869a
open Go.RowKit
set_option linter.unusedSimpArgs false

section
variable {P : Program} {l : List Oper} {Q : Exit → Act → World → Prop} {S : World → Prop}
theorem take_val {i : Nat} {oi : Oper} {v : Value} {fuel : Nat} {listed : Array Bool} {a : Act} {w : World} (hi : l[i]? = some oi)
    (hs : Region.noSelect l.toArray = true) (hf : Region.free .any l.toArray listed i = true) (hr : (Region.ready .any l.toArray listed).contains i = true)
    (hQ : ∀ c a w, Q (.panic c) (a.put oi.dst v) w → Q (.panic c) a w) (hw : Region.wanted oi (yielded l.toArray a.tmps) = true) (h : ∀ w, S w → (execOp a.eval oi).run P w = .ok (.value v) w) (hS : S w)
    (hk : wpAnyH P .any l.toArray Q S fuel (listed.setIfInBounds i true) (a.put oi.dst v) w) : wpAnyH P .any l.toArray Q S (fuel + 1) listed a w :=
  wpAnyH_take (by simpa using hi) hs hf hr hQ (.inl ⟨hw, h⟩) hS hk
theorem take_load {i : Nat} {oi : Oper} {fuel : Nat} {listed : Array Bool} {a : Act} {w : World} (hi : l[i]? = some oi)
    (hs : Region.noSelect l.toArray = true) (hf : Region.free .any l.toArray listed i = true) (hr : (Region.ready .any l.toArray listed).contains i = true)
    (ty : TypeId) (x : Operand) (ho : oi.op = .load ty x) (b off : Nat) (hx : a.eval x = .pointer (some ⟨b, off, none⟩)) (cs : Array Value) (d : TypeDesc)
    (hQ : ∀ c a w, Q (.panic c) (a.put oi.dst (.agg cs)) w → Q (.panic c) a w) (hw : Region.wanted oi (yielded l.toArray a.tmps) = true)
    (hc : ∀ w, S w → w.rangeAt b off cs.toList) (hu : P.underlying ty = some d) (hd : d.isRow = true) (hz : (P.info? ty).map (·.size) = some cs.size) (hS : S w)
    (hk : wpAnyH P .any l.toArray Q S fuel (listed.setIfInBounds i true) (a.put oi.dst (.agg cs)) w) : wpAnyH P .any l.toArray Q S (fuel + 1) listed a w :=
  take_val hi hs hf hr hQ hw (fun w hC => by
    unfold execOp
    simp only [ho, hx, Sem.run_bind, run_loadAt_mid w b off ty cs.toList d (hc w hC) hu hd (by simpa using hz), Result.andThen_ok, Sem.run_pure]) hS hk
theorem exec_store {o : Oper} {a : Act} {w w' : World} (ty : TypeId) (x y : Operand) (ho : o.op = .store ty x y) (p v : Value) (hx : a.eval x = p) (hy : a.eval y = v) (h : (Instr.storeAt ty p v).run P w = .ok () w') : (execOp a.eval o).run P w = .ok .skip w' := by
  unfold execOp
  simp only [ho, hx, hy, Sem.run_bind, h, Result.andThen_ok, Sem.run_pure]
theorem one_call {i : Nat} {oi : Oper} {fuel : Nat} {listed : Array Bool} {a : Act} {w : World} (hi : l[i]? = some oi) (hr : Region.ready .any l.toArray listed = [i]) (hw : Region.wanted oi (yielded l.toArray a.tmps) = true)
    (f : FuncId) (args : Array Value) (h : (execOp a.eval oi).run P w = .ok (.enter f args) w)
    (hc : Calls P f args w fun e w2 => ∃ v, e = .returned v ∧ S w2 ∧ wpAnyH P .any l.toArray Q S fuel (listed.setIfInBounds i true) (a.put oi.dst v) w2) : wpAnyH P .any l.toArray Q S (fuel + 1) listed a w := by
  refine wpAnyH_ready hr (by simp) (AllReadyH.cons (by simpa using hi) (fun K hK => ?_) AllReadyH.nil)
  rw [if_pos hw]
  unfold Oper.wp
  rw [h]
  refine hc.mono ?_
  rintro e w2 ⟨v, rfl, h1, h2⟩
  exact hK.out _ _ h1 fun _ => h2
theorem one_skip {i : Nat} {oi : Oper} {fuel : Nat} {listed : Array Bool} {a : Act} {w w2 : World} (hi : l[i]? = some oi) (hr : Region.ready .any l.toArray listed = [i]) (hw : Region.wanted oi (yielded l.toArray a.tmps) = true)
    (h : (execOp a.eval oi).run P w = .ok .skip w2) (hS : S w2) (hk : wpAnyH P .any l.toArray Q S fuel (listed.setIfInBounds i true) (a.put oi.dst undef) w2) : wpAnyH P .any l.toArray Q S (fuel + 1) listed a w := by
  refine wpAnyH_ready hr (by simp) (AllReadyH.cons (by simpa using hi) (fun K hK => ?_) AllReadyH.nil)
  rw [if_pos hw]
  unfold Oper.wp
  rw [h]
  exact hK.out _ _ hS fun _ => hk
end

set_option maxRecDepth 100000 in
set_option maxHeartbeats 1600000 in
theorem heap_any (ao : Option Addr) (hb off len cap : Nat) (S : Nat → Int) (w : World) (hsrc : Src w ao hb off len S) (hlen : len ≤ 65536) :
    Calls Try.prog 6 #[.slice ao len cap] w fun e w' => e = .returned (.slice (some ⟨w.heap.size, 0, none⟩) len len) ∧ HeapTo S len w w' len := by
  have hmk := make_heap len hlen
  go_enter Try.func6, Try.ntmps6
  go_wp2
  go_loopw [4] (fun i wr => ∃ k : Nat, k ≤ len ∧ i = .int .i64 k ∧ HeapTo S len w wr k) (fun i _ => len - (intOf i).toNat)
  case atStart => exact ⟨0, Nat.zero_le _, rfl, HeapTo.start w len⟩
  case round =>
    obtain ⟨k, hk, rfl, hH⟩ := hrel
    clear hmk
    by_cases hlt : k < len
    · have hix := index22 (hsrc.addr (by omega)) hlt cap
      have i1 : (0 : Int) ≤ (k : Int) := by omega
      have i2 : (k : Int) < (len : Int) := by omega
      have hr2 : ∀ w', Below w.heap.size w w' → w'.rangeAt hb (off + k * 64 + 32) (rowAt S (k * 64 + 32)).toList := fun w' h => by rw [Nat.add_assoc]; exact hsrc.range (by omega) h
      go_wp2
      refine wp_region_held_drew (S := fun w' => HeapTo S len w w' k) (by kernel_rfl) hH.drew (fun hHeld => ?_)
      refine take_val (i := 0) rfl (by kernel_rfl) (by kernel_rfl) (by kernel_rfl) (fun _ _ _ h => h) (by rfl) (by intro w hw; go_simp; with_reducible rfl) (by assumption) ?_
      simp only [Act.put, List.setIfInBounds_toArray, List.set_cons_zero, List.set_cons_succ]
      refine take_val (i := 1) rfl (by kernel_rfl) (by kernel_rfl) (by kernel_rfl) (fun _ _ _ h => h) (by rfl) (by intro w hw; go_simp; with_reducible rfl) (by assumption) ?_
      simp only [Act.put, List.setIfInBounds_toArray, List.set_cons_zero, List.set_cons_succ]
      refine take_val (i := 2) rfl (by kernel_rfl) (by kernel_rfl) (by kernel_rfl) (fun _ _ _ h => h) (by rfl) (by intro w hw; go_simp; with_reducible rfl) (by assumption) ?_
      simp only [Act.put, List.setIfInBounds_toArray, List.set_cons_zero, List.set_cons_succ]
      refine take_val (i := 3) rfl (by kernel_rfl) (by kernel_rfl) (by kernel_rfl) (fun _ _ _ h => h) (by rfl) (by intro w hw; go_simp; with_reducible rfl) (by assumption) ?_
      simp only [Act.put, List.setIfInBounds_toArray, List.set_cons_zero, List.set_cons_succ]
      refine take_val (i := 4) rfl (by kernel_rfl) (by kernel_rfl) (by kernel_rfl) (fun _ _ _ h => h) (by rfl) (by intro w hw; go_simp; with_reducible rfl) (by assumption) ?_
      simp only [Act.put, List.setIfInBounds_toArray, List.set_cons_zero, List.set_cons_succ]
      refine take_val (i := 5) rfl (by kernel_rfl) (by kernel_rfl) (by kernel_rfl) (fun _ _ _ h => h) (by rfl) (by intro w hw; go_simp; with_reducible rfl) (by assumption) ?_
      simp only [Act.put, List.setIfInBounds_toArray, List.set_cons_zero, List.set_cons_succ]
      refine take_load (i := 6) rfl (by kernel_rfl) (by kernel_rfl) (by kernel_rfl) 29 (.tmp 19) rfl hb (off + k * 64) (by rfl) (rowAt S (k * 64)) _ (fun _ _ _ h => h) (by rfl) (fun w' h => hsrc.range (by omega) h.below) Try.underlying29 rfl (by rw [Try.size29, size_rowAt]) (by assumption) ?_
      simp only [Act.put, List.setIfInBounds_toArray, List.set_cons_zero, List.set_cons_succ]
      refine take_val (i := 7) rfl (by kernel_rfl) (by kernel_rfl) (by kernel_rfl) (fun _ _ _ h => h) (by rfl) (by intro w hw; go_simp; with_reducible rfl) (by assumption) ?_
      simp only [Act.put, List.setIfInBounds_toArray, List.set_cons_zero, List.set_cons_succ]
      refine take_val (i := 8) rfl (by kernel_rfl) (by kernel_rfl) (by kernel_rfl) (fun _ _ _ h => h) (by rfl) (by intro w hw; go_simp; with_reducible rfl) (by assumption) ?_
      simp only [Act.put, List.setIfInBounds_toArray, List.set_cons_zero, List.set_cons_succ]
      refine take_val (i := 9) rfl (by kernel_rfl) (by kernel_rfl) (by kernel_rfl) (fun _ _ _ h => h) (by rfl) (by intro w hw; go_simp; with_reducible rfl) (by assumption) ?_
      simp only [Act.put, List.setIfInBounds_toArray, List.set_cons_zero, List.set_cons_succ]
      refine take_val (i := 10) rfl (by kernel_rfl) (by kernel_rfl) (by kernel_rfl) (fun _ _ _ h => h) (by rfl) (by intro w hw; go_simp; with_reducible rfl) (by assumption) ?_
      simp only [Act.put, List.setIfInBounds_toArray, List.set_cons_zero, List.set_cons_succ]
      refine take_load (i := 11) rfl (by kernel_rfl) (by kernel_rfl) (by kernel_rfl) 29 (.tmp 24) rfl hb (off + k * 64 + 32) (by rfl) (rowAt S (k * 64 + 32)) _ (fun _ _ _ h => h) (by rfl) (fun w' h => hr2 w' h.below) Try.underlying29 rfl (by rw [Try.size29, size_rowAt]) (by assumption) ?_
      simp only [Act.put, List.setIfInBounds_toArray, List.set_cons_zero, List.set_cons_succ]
      refine one_call (i := 12) rfl (by kernel_rfl) (by rfl) 10 #[.agg (rowAt S (k * 64)), .agg (rowAt S (k * 64 + 32))] (by go_simp) ?_
      refine (newRanked_any _ _ (size_rowAt _ _) (size_rowAt _ _) (rows_one S _ _) _).mono ?_
      rintro e w2 ⟨rfl, hbel⟩
      refine ⟨_, rfl, hHeld.later hbel, ?_⟩
      have hH2 := hHeld.later hbel
      simp only [Act.put, List.setIfInBounds_toArray, List.set_cons_zero, List.set_cons_succ]
      refine take_val (i := 13) rfl (by kernel_rfl) (by kernel_rfl) (by kernel_rfl) (fun _ _ _ h => h) (by rfl) (by intro w hw; go_simp; with_reducible rfl) (by assumption) ?_
      simp only [Act.put, List.setIfInBounds_toArray, List.set_cons_zero, List.set_cons_succ]
      have hst := run_storeAt_mid (P := Try.prog) w2 w.heap.size (k * 64) 35 (rowAt S (k * 64) ++ rowAt S (k * 64 + 32)) (by rw [Array.size_append, size_rowAt, size_rowAt]; exact hH2.room hlt) (by rw [Try.size35]; simp [size_rowAt]) (rows_one S _ _)
      refine one_skip (i := 14) rfl (by kernel_rfl) (by rfl) (w2 := w2.setCells w.heap.size (k * 64) (rowAt S (k * 64) ++ rowAt S (k * 64 + 32)).toList) ?_ (hH2.stored _) ?_
      · exact exec_store 35 (.tmp 27) (.tmp 26) rfl _ _ rfl rfl hst
      simp only [Act.put, List.setIfInBounds_toArray, List.set_cons_zero, List.set_cons_succ]
      refine wpAnyH_done (by kernel_rfl) ?_ _
      have hH3 := hH2.next hlt
      clear hst hH hHeld hbel hH2
      generalize w2.setCells w.heap.size (k * 64) (rowAt S (k * 64) ++ rowAt S (k * 64 + 32)).toList = w3 at hH3 ⊢
      go_wp2
      go_roundw
      case rel => exact ⟨k + 1, by omega, by go_num, hH3⟩
      case measure => simp [intOf]; omega
    · have : k = len := by omega
      subst this
      go_wp2
      go_ret
      exact ⟨rfl, hH⟩
end Go.Proofs.Qxb6614869a
