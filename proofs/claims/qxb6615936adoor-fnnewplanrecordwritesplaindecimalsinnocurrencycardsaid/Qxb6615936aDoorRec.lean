/-
  newPlanRecord.
-/
import Derived.Test.Qxb6615936aDoorPlan
import Derived.Deep.DeepCutAuto
namespace Go.Proofs.Qxb6615936aDoor
open Go.RowKit Go.Sort
set_option linter.unusedVariables false
set_option linter.unusedSimpArgs false

def zRec : Array Value := #[.string ⟨#[]⟩, .string ⟨#[]⟩]
theorem info33 : (Tryd.prog.info? 33).map (fun i => (i.size, i.bytes, i.zero)) = some (2, 32, some (.agg zRec)) := by kernel_rfl
theorem make28 (n : Nat) (hn : n ≤ 65536) (w : World) : (Instr.makeSlice 28 (.int .i64 n) (.int .i64 n)).run Tryd.prog w = .ok (.slice (some ⟨w.heap.size, 0, none⟩) n n) (w.alloc (.cells (madeCells zRec (n * 2)) 33)) := by
  obtain ⟨i, hi, hzz⟩ := Option.map_eq_some_iff.1 info33
  simp only [Prod.mk.injEq] at hzz
  obtain ⟨hs, hb, hz⟩ := hzz
  rw [run_make (P := Tryd.prog) w 28 33 i (.agg zRec) Tryd.underlying28 hi hz .i64 .i64 n n (by omega) (by omega) (by rw [hb]; omega) (by omega), hs]
  rfl

section
variable {P : Program} {l : List Oper} {Q : Exit → Act → World → Prop} {S : World → Prop}
/-- Two are ready: a call, and an operation that makes memory. -/
theorem two_cv {i j : Nat} {oi oj : Oper} {fuel : Nat} {listed : Array Bool} {a : Act} {w w2 : World} {v : Value} (hi : l[i]? = some oi) (hj : l[j]? = some oj) (hr : Region.ready .any l.toArray listed = [i, j])
    (hwi : Region.wanted oi (yielded l.toArray a.tmps) = true) (hwj : Region.wanted oj (yielded l.toArray a.tmps) = true)
    (f : FuncId) (args : Array Value) (h : (execOp a.eval oi).run P w = .ok (.enter f args) w)
    (hc : Calls P f args w fun e w2 => ∃ v, e = .returned v ∧ S w2 ∧ wpAnyH P .any l.toArray Q S fuel (listed.setIfInBounds i true) (a.put oi.dst v) w2)
    (hv : (execOp a.eval oj).run P w = .ok (.value v) w2) (hS : S w2) (hk : wpAnyH P .any l.toArray Q S fuel (listed.setIfInBounds j true) (a.put oj.dst v) w2) : wpAnyH P .any l.toArray Q S (fuel + 1) listed a w := by
  refine wpAnyH_ready hr (by simp) (AllReadyH.cons (by simpa using hi) (fun K hK => ?_) (AllReadyH.cons (by simpa using hj) (fun K hK => ?_) AllReadyH.nil))
  · rw [if_pos hwi]
    unfold Oper.wp
    rw [h]
    refine hc.mono ?_
    rintro e w2 ⟨v, rfl, h1, h2⟩
    exact hK.out _ _ h1 fun _ => h2
  · rw [if_pos hwj]
    unfold Oper.wp
    rw [hv]
    exact hK.out _ _ hS fun _ => hk
end

/-- Currency.Code of the zero Currency. -/
theorem code11 (w : World) : Calls Tryd.prog 11 #[.agg #[.string ⟨#[]⟩, .int .i64 0]] w (StrPost ⟨#[]⟩ w) := by
  have HB := Lib.hid ((Below.refl w.heap.size w).alloc (Nat.le_refl _) (.cells #[.string ⟨#[]⟩, .int .i64 0] 44))
  go_enter Tryd.func11, Tryd.ntmps11
  go_wp2
  go_ret
  exact ⟨rfl, HB.out⟩

def recCells (id acc : ByteArray) (a i : ByteArray) (vs : Int) (rb len : Nat) : Array Value :=
  #[.string id, .string acc, .string ⟨#[]⟩, .string a, .string i, .string ⟨#[]⟩, .int .i64 vs, .slice (some ⟨rb, 0, none⟩) len len]

def itStr (it : Int) : ByteArray := if it = 0 then ⟨#[]⟩ else decB it

def recRow (A : Nat → Int) (j : Nat) : Array Value := #[.string zdateS, .string (decB (A j))]

theorem PlanAt.later {id acc : ByteArray} {am it vs : Int} {len : Nat} {A : Nat → Int} {pb ib : Nat} {w w' : World} (h : PlanAt id acc am it vs len A pb ib w) (hb : Below w.heap.size w w') : PlanAt id acc am it vs len A pb ib w' :=
  ⟨(hb.block pb (Array.getElem?_eq_some_iff.1 h.plan).1).trans h.plan, h.ins.of_block (hb.block ib h.lt), Nat.lt_of_lt_of_le h.lt hb.size⟩

/-- While the records are written. -/
structure RecTo (id acc : ByteArray) (am it vs : Int) (len : Nat) (A : Nat → Int) (qb rb : Nat) (w W : World) (k : Nat) : Prop where
  bel : Below w.heap.size w W
  recd : W.heap[qb]? = some (.cells (recCells id acc (decB am) (itStr it) vs rb len) 30 (0, 0))
  rows : RowsTo 2 (recRow A) len rb W k
  lt : rb < W.heap.size

def RecPost (id acc : ByteArray) (am it vs : Int) (len : Nat) (A : Nat → Int) (w : World) (e : Ending) (w' : World) : Prop :=
  ∃ qb rb, e = .returned (.pointer (some ⟨qb, 0, none⟩)) ∧ RecTo id acc am it vs len A qb rb w w' len

theorem index35 {ib len k : Nat} (hk : k < len) (w : World) : (Instr.indexAt 35 (.slice (some ⟨ib, 0, none⟩) len len) (.int .i64 k)).run Tryd.prog w = .ok (.pointer (some ⟨ib, k * 6, none⟩)) w := by
  have h1 : (0 : Int) ≤ (k : Int) := by omega
  have h2 : (k : Int) < (len : Int) := by omega
  go_simp
theorem index28 {ib len k : Nat} (hk : k < len) (w : World) : (Instr.indexAt 28 (.slice (some ⟨ib, 0, none⟩) len len) (.int .i64 k)).run Tryd.prog w = .ok (.pointer (some ⟨ib, k * 2, none⟩)) w := by
  have h1 : (0 : Int) ≤ (k : Int) := by omega
  have h2 : (k : Int) < (len : Int) := by omega
  go_simp

set_option maxHeartbeats 3200000 in
set_option maxRecDepth 100000 in
theorem record10 (id acc : ByteArray) (am it vs : Int) (len : Nat) (A : Nat → Int) (pb ib : Nat) (w : World) (hP : PlanAt id acc am it vs len A pb ib w) (hlen : len ≤ 65536)
    (ha0 : -9223372036854775808 ≤ am) (ha1 : am ≤ 9223372036854775807) (hi0 : -9223372036854775808 ≤ it) (hi1 : it ≤ 9223372036854775807) (hA0 : ∀ k, k < len → -9223372036854775808 ≤ A k) (hA1 : ∀ k, k < len → A k ≤ 9223372036854775807)
    (htab : ∀ W, Below w.heap.size w W → Tab W) :
    Calls Tryd.prog 10 #[.pointer (some ⟨pb, 0, none⟩)] w (RecPost id acc am it vs len A w) := by
  have HT := Lib.hid htab
  have HP := Lib.hid hP
  clear htab hP
  go_enter Tryd.func10, Tryd.ntmps10
  go_upto_region 1 with fail
  go_cut [3] (fun v wx => ∃ qb rb c, v = .pointer (some ⟨qb, 0, none⟩) ∧ Below w.heap.size w wx ∧ w.heap.size ≤ rb ∧ w.heap.size ≤ qb ∧ rb ≠ qb ∧ wx.heap[qb]? = some (.cells (recCells id acc (decB am) ⟨#[]⟩ vs rb len) 30 (0, 0)) ∧ wx.heap[rb]? = some (.cells c 33 (0, 0)) ∧ c.size = len * 2)
  case first =>
    refine wp_region_held_drew (S := fun W => Below w.heap.size w W ∧ PlanAt id acc am it vs len A pb ib W) (by kernel_rfl) ⟨(Below.refl _ _).drew, HP.out.later (Below.refl _ _).drew⟩ (fun hHeld => ?_)
    refine take_val (i := 0) rfl (by kernel_rfl) (by kernel_rfl) (by kernel_rfl) (fun _ _ _ h => h) (by rfl) (by intro w hw; go_simp; with_reducible rfl) (by assumption) ?_
    simp only [Act.put, List.setIfInBounds_toArray, List.set_cons_zero, List.set_cons_succ]
    refine take_val (i := 1) rfl (by kernel_rfl) (by kernel_rfl) (by kernel_rfl) (fun _ _ _ h => h) (by rfl) (by intro w hw; go_simp; with_reducible rfl) (by assumption) ?_
    simp only [Act.put, List.setIfInBounds_toArray, List.set_cons_zero, List.set_cons_succ]
    refine take_val (i := 2) rfl (by kernel_rfl) (by kernel_rfl) (by kernel_rfl) (fun _ _ _ h => h) (by rfl) (by intro w hw; go_simp; with_reducible rfl) (by assumption) ?_
    simp only [Act.put, List.setIfInBounds_toArray, List.set_cons_zero, List.set_cons_succ]
    refine take_val (i := 3) (v := .string id) rfl (by kernel_rfl) (by kernel_rfl) (by kernel_rfl) (fun _ _ _ h => h) (by rfl) (by
      intro w1 hw
      have hc0 : w1.cell? ⟨pb, 0, none⟩ = some (.string id) := cell_of_row w1 pb 0 _ _ _ hw.2.plan
      go_simp) (by assumption) ?_
    simp only [Act.put, List.setIfInBounds_toArray, List.set_cons_zero, List.set_cons_succ]
    refine take_val (i := 4) rfl (by kernel_rfl) (by kernel_rfl) (by kernel_rfl) (fun _ _ _ h => h) (by rfl) (by intro w hw; go_simp; with_reducible rfl) (by assumption) ?_
    simp only [Act.put, List.setIfInBounds_toArray, List.set_cons_zero, List.set_cons_succ]
    refine take_val (i := 5) rfl (by kernel_rfl) (by kernel_rfl) (by kernel_rfl) (fun _ _ _ h => h) (by rfl) (by intro w hw; go_simp; with_reducible rfl) (by assumption) ?_
    simp only [Act.put, List.setIfInBounds_toArray, List.set_cons_zero, List.set_cons_succ]
    refine take_val (i := 6) rfl (by kernel_rfl) (by kernel_rfl) (by kernel_rfl) (fun _ _ _ h => h) (by rfl) (by intro w hw; go_simp; with_reducible rfl) (by assumption) ?_
    simp only [Act.put, List.setIfInBounds_toArray, List.set_cons_zero, List.set_cons_succ]
    refine take_val (i := 7) (v := .string acc) rfl (by kernel_rfl) (by kernel_rfl) (by kernel_rfl) (fun _ _ _ h => h) (by rfl) (by
      intro w1 hw
      have hc0 : w1.cell? ⟨pb, 1, none⟩ = some (.string acc) := cell_of_row w1 pb 1 _ _ _ hw.2.plan
      go_simp) (by assumption) ?_
    simp only [Act.put, List.setIfInBounds_toArray, List.set_cons_zero, List.set_cons_succ]
    refine take_val (i := 8) rfl (by kernel_rfl) (by kernel_rfl) (by kernel_rfl) (fun _ _ _ h => h) (by rfl) (by intro w hw; go_simp; with_reducible rfl) (by assumption) ?_
    simp only [Act.put, List.setIfInBounds_toArray, List.set_cons_zero, List.set_cons_succ]
    refine take_val (i := 9) rfl (by kernel_rfl) (by kernel_rfl) (by kernel_rfl) (fun _ _ _ h => h) (by rfl) (by intro w hw; go_simp; with_reducible rfl) (by assumption) ?_
    simp only [Act.put, List.setIfInBounds_toArray, List.set_cons_zero, List.set_cons_succ]
    refine take_val (i := 10) rfl (by kernel_rfl) (by kernel_rfl) (by kernel_rfl) (fun _ _ _ h => h) (by rfl) (by intro w hw; go_simp; with_reducible rfl) (by assumption) ?_
    simp only [Act.put, List.setIfInBounds_toArray, List.set_cons_zero, List.set_cons_succ]
    refine take_val (i := 11) (v := .agg #[.string ⟨#[]⟩, .int .i64 0]) rfl (by kernel_rfl) (by kernel_rfl) (by kernel_rfl) (fun _ _ _ h => h) (by rfl) (by
      intro w1 hw
      have hc0 : w1.cell? ⟨pb, 2, none⟩ = some (.string ⟨#[]⟩) := cell_of_row w1 pb 2 _ _ _ hw.2.plan
      have hc1 : w1.cell? ⟨pb, 3, none⟩ = some (.int .i64 0) := cell_of_row w1 pb 3 _ _ _ hw.2.plan
      go_simp) (by assumption) ?_
    simp only [Act.put, List.setIfInBounds_toArray, List.set_cons_zero, List.set_cons_succ]
    refine take_val (i := 13) rfl (by kernel_rfl) (by kernel_rfl) (by kernel_rfl) (fun _ _ _ h => h) (by rfl) (by intro w hw; go_simp; with_reducible rfl) (by assumption) ?_
    simp only [Act.put, List.setIfInBounds_toArray, List.set_cons_zero, List.set_cons_succ]
    refine take_val (i := 14) rfl (by kernel_rfl) (by kernel_rfl) (by kernel_rfl) (fun _ _ _ h => h) (by rfl) (by intro w hw; go_simp; with_reducible rfl) (by assumption) ?_
    simp only [Act.put, List.setIfInBounds_toArray, List.set_cons_zero, List.set_cons_succ]
    refine take_val (i := 15) rfl (by kernel_rfl) (by kernel_rfl) (by kernel_rfl) (fun _ _ _ h => h) (by rfl) (by intro w hw; go_simp; with_reducible rfl) (by assumption) ?_
    simp only [Act.put, List.setIfInBounds_toArray, List.set_cons_zero, List.set_cons_succ]
    refine take_val (i := 16) (v := .agg #[.string ⟨#[]⟩, .int .i64 0]) rfl (by kernel_rfl) (by kernel_rfl) (by kernel_rfl) (fun _ _ _ h => h) (by rfl) (by
      intro w1 hw
      have hc0 : w1.cell? ⟨pb, 2, none⟩ = some (.string ⟨#[]⟩) := cell_of_row w1 pb 2 _ _ _ hw.2.plan
      have hc1 : w1.cell? ⟨pb, 3, none⟩ = some (.int .i64 0) := cell_of_row w1 pb 3 _ _ _ hw.2.plan
      go_simp) (by assumption) ?_
    simp only [Act.put, List.setIfInBounds_toArray, List.set_cons_zero, List.set_cons_succ]
    refine take_val (i := 17) rfl (by kernel_rfl) (by kernel_rfl) (by kernel_rfl) (fun _ _ _ h => h) (by rfl) (by intro w hw; go_simp; with_reducible rfl) (by assumption) ?_
    simp only [Act.put, List.setIfInBounds_toArray, List.set_cons_zero, List.set_cons_succ]
    refine take_val (i := 18) rfl (by kernel_rfl) (by kernel_rfl) (by kernel_rfl) (fun _ _ _ h => h) (by rfl) (by intro w hw; go_simp; with_reducible rfl) (by assumption) ?_
    simp only [Act.put, List.setIfInBounds_toArray, List.set_cons_zero, List.set_cons_succ]
    refine take_val (i := 19) rfl (by kernel_rfl) (by kernel_rfl) (by kernel_rfl) (fun _ _ _ h => h) (by rfl) (by intro w hw; go_simp; with_reducible rfl) (by assumption) ?_
    simp only [Act.put, List.setIfInBounds_toArray, List.set_cons_zero, List.set_cons_succ]
    refine take_val (i := 20) (v := .int .i64 am) rfl (by kernel_rfl) (by kernel_rfl) (by kernel_rfl) (fun _ _ _ h => h) (by rfl) (by
      intro w1 hw
      have hc0 : w1.cell? ⟨pb, 4, none⟩ = some (.int .i64 am) := cell_of_row w1 pb 4 _ _ _ hw.2.plan
      go_simp) (by assumption) ?_
    simp only [Act.put, List.setIfInBounds_toArray, List.set_cons_zero, List.set_cons_succ]
    refine take_val (i := 22) rfl (by kernel_rfl) (by kernel_rfl) (by kernel_rfl) (fun _ _ _ h => h) (by rfl) (by intro w hw; go_simp; with_reducible rfl) (by assumption) ?_
    simp only [Act.put, List.setIfInBounds_toArray, List.set_cons_zero, List.set_cons_succ]
    refine take_val (i := 23) rfl (by kernel_rfl) (by kernel_rfl) (by kernel_rfl) (fun _ _ _ h => h) (by rfl) (by intro w hw; go_simp; with_reducible rfl) (by assumption) ?_
    simp only [Act.put, List.setIfInBounds_toArray, List.set_cons_zero, List.set_cons_succ]
    refine take_val (i := 24) rfl (by kernel_rfl) (by kernel_rfl) (by kernel_rfl) (fun _ _ _ h => h) (by rfl) (by intro w hw; go_simp; with_reducible rfl) (by assumption) ?_
    simp only [Act.put, List.setIfInBounds_toArray, List.set_cons_zero, List.set_cons_succ]
    refine take_val (i := 25) (v := .int .i64 vs) rfl (by kernel_rfl) (by kernel_rfl) (by kernel_rfl) (fun _ _ _ h => h) (by rfl) (by
      intro w1 hw
      have hc0 : w1.cell? ⟨pb, 8, none⟩ = some (.int .i64 vs) := cell_of_row w1 pb 8 _ _ _ hw.2.plan
      go_simp) (by assumption) ?_
    simp only [Act.put, List.setIfInBounds_toArray, List.set_cons_zero, List.set_cons_succ]
    refine take_val (i := 26) rfl (by kernel_rfl) (by kernel_rfl) (by kernel_rfl) (fun _ _ _ h => h) (by rfl) (by intro w hw; go_simp; with_reducible rfl) (by assumption) ?_
    simp only [Act.put, List.setIfInBounds_toArray, List.set_cons_zero, List.set_cons_succ]
    refine take_val (i := 27) rfl (by kernel_rfl) (by kernel_rfl) (by kernel_rfl) (fun _ _ _ h => h) (by rfl) (by intro w hw; go_simp; with_reducible rfl) (by assumption) ?_
    simp only [Act.put, List.setIfInBounds_toArray, List.set_cons_zero, List.set_cons_succ]
    refine take_val (i := 28) rfl (by kernel_rfl) (by kernel_rfl) (by kernel_rfl) (fun _ _ _ h => h) (by rfl) (by intro w hw; go_simp; with_reducible rfl) (by assumption) ?_
    simp only [Act.put, List.setIfInBounds_toArray, List.set_cons_zero, List.set_cons_succ]
    refine take_val (i := 29) (v := .slice (some ⟨ib, 0, none⟩) len len) rfl (by kernel_rfl) (by kernel_rfl) (by kernel_rfl) (fun _ _ _ h => h) (by rfl) (by
      intro w1 hw
      have hc0 : w1.cell? ⟨pb, 9, none⟩ = some (.slice (some ⟨ib, 0, none⟩) len len) := cell_of_row w1 pb 9 _ _ _ hw.2.plan
      go_simp) (by assumption) ?_
    simp only [Act.put, List.setIfInBounds_toArray, List.set_cons_zero, List.set_cons_succ]
    refine take_val (i := 30) rfl (by kernel_rfl) (by kernel_rfl) (by kernel_rfl) (fun _ _ _ h => h) (by rfl) (by intro w hw; go_simp; with_reducible rfl) (by assumption) ?_
    simp only [Act.put, List.setIfInBounds_toArray, List.set_cons_zero, List.set_cons_succ]
    have hmk := make28 len hlen w.drew
    have hB0 : Below w.heap.size w w.drew := (Below.refl _ _).drew
    have hP0 : PlanAt id acc am it vs len A pb ib w.drew := HP.out.later (Below.refl _ _).drew
    have hBm : Below w.heap.size w (w.drew.alloc (.cells (madeCells zRec (len * 2)) 33)) := hB0.alloc (Nat.le_refl _) _
    have hPm : PlanAt id acc am it vs len A pb ib (w.drew.alloc (.cells (madeCells zRec (len * 2)) 33)) := hP0.later ((Below.refl _ _).alloc (Nat.le_refl _) _)
    refine two_cv (i := 12) (j := 31) rfl rfl (by kernel_rfl) (by rfl) (by rfl) 11 #[.agg #[.string ⟨#[]⟩, .int .i64 0]] (by go_simp) ?_ (v := .slice (some ⟨w.heap.size, 0, none⟩) len len) (w2 := w.drew.alloc (.cells (madeCells zRec (len * 2)) 33)) (by go_simp) ⟨hBm, hPm⟩ ?_
    · refine (code11 _).mono ?_
      rintro e W1 ⟨rfl, hb1⟩
      have hB1 : Below w.heap.size w W1 := hB0.trans hb1
      have hP1 : PlanAt id acc am it vs len A pb ib W1 := hP0.later hb1
      refine ⟨_, rfl, ⟨hB1, hP1⟩, ?_⟩
      simp only [Act.put, List.setIfInBounds_toArray, List.set_cons_zero, List.set_cons_succ]
      have hmk1 := make28 len hlen W1
      have hBn : Below w.heap.size w (W1.alloc (.cells (madeCells zRec (len * 2)) 33)) := hB1.alloc hB1.size _
      have hPn : PlanAt id acc am it vs len A pb ib (W1.alloc (.cells (madeCells zRec (len * 2)) 33)) := hP1.later ((Below.refl _ _).alloc (Nat.le_refl _) _)
      refine two_cv (i := 21) (j := 31) rfl rfl (by kernel_rfl) (by rfl) (by rfl) 12 #[.agg #[.string ⟨#[]⟩, .int .i64 0], .int .i64 am] (by go_simp) ?_ (v := .slice (some ⟨W1.heap.size, 0, none⟩) len len) (w2 := W1.alloc (.cells (madeCells zRec (len * 2)) 33)) (by go_simp) ⟨hBn, hPn⟩ ?_
      · refine (format12 am ha0 ha1 W1 (fun X hX => HT.out X ((hB1).trans (hX.mono (hB1).size)))).mono ?_
        rintro e W2 ⟨rfl, hb2⟩
        have hb2B : Below w.heap.size w W2 := (hB1).trans (hb2.mono (hB1).size)
        have hb2P : PlanAt id acc am it vs len A pb ib W2 := (hP1).later hb2
        refine ⟨_, rfl, ⟨hb2B, hb2P⟩, ?_⟩
        simp only [Act.put, List.setIfInBounds_toArray, List.set_cons_zero, List.set_cons_succ]
        have hmk2 := make28 len hlen W2
        have hB2n : Below w.heap.size w (W2.alloc (.cells (madeCells zRec (len * 2)) 33)) := hb2B.alloc hb2B.size _
        have hP2n : PlanAt id acc am it vs len A pb ib (W2.alloc (.cells (madeCells zRec (len * 2)) 33)) := hb2P.later ((Below.refl _ _).alloc (Nat.le_refl _) _)
        refine one_val (i := 31) (v := .slice (some ⟨W2.heap.size, 0, none⟩) len len) (w2 := W2.alloc (.cells (madeCells zRec (len * 2)) 33)) rfl (by kernel_rfl) (by rfl) (by go_simp) ⟨hB2n, hP2n⟩ ?_
        simp only [Act.put, List.setIfInBounds_toArray, List.set_cons_zero, List.set_cons_succ]
        generalize hq : W2.alloc (.cells (madeCells zRec (len * 2)) 33) = W3 at hB2n hP2n ⊢
        have hrb : W3.heap[W2.heap.size]? = some (.cells (madeCells zRec (len * 2)) 33 (0, 0)) := by rw [← hq]; exact heap_alloc_new _ _
        clear hmk hmk1 hmk2 hq
        have hS3 : Below w.heap.size w W3 ∧ PlanAt id acc am it vs len A pb ib W3 := ⟨hB2n, hP2n⟩
        refine take_val (i := 32) rfl (by kernel_rfl) (by kernel_rfl) (by kernel_rfl) (fun _ _ _ h => h) (by rfl) (by intro w hw; go_simp; with_reducible rfl) (by assumption) ?_
        simp only [Act.put, List.setIfInBounds_toArray, List.set_cons_zero, List.set_cons_succ]
        have hS4 : Below w.heap.size w (W3.alloc (.cells (recCells id acc (decB am) ⟨#[]⟩ vs (W2.heap.size) len) 30)) ∧ PlanAt id acc am it vs len A pb ib (W3.alloc (.cells (recCells id acc (decB am) ⟨#[]⟩ vs (W2.heap.size) len) 30)) := ⟨(hB2n).alloc (hB2n).size _, (hP2n).later ((Below.refl _ _).alloc (Nat.le_refl _) _)⟩
        refine one_val (i := 33) (v := .pointer (some ⟨W3.heap.size, 0, none⟩)) (w2 := W3.alloc (.cells (recCells id acc (decB am) ⟨#[]⟩ vs (W2.heap.size) len) 30)) rfl (by kernel_rfl) (by rfl) (by go_simp; rfl) hS4 ?_
        simp only [Act.put, List.setIfInBounds_toArray, List.set_cons_zero, List.set_cons_succ]
        refine take_val (i := 34) rfl (by kernel_rfl) (by kernel_rfl) (by kernel_rfl) (fun _ _ _ h => h) (by rfl) (by intro w hw; go_simp; with_reducible rfl) (by assumption) ?_
        simp only [Act.put, List.setIfInBounds_toArray, List.set_cons_zero, List.set_cons_succ]
        refine wpAnyH_done (by kernel_rfl) ?_ _
        have hlt3 : W2.heap.size < W3.heap.size := (Array.getElem?_eq_some_iff.1 hrb).1
        have HF : Hid (Below w.heap.size w (W3.alloc (.cells (recCells id acc (decB am) ⟨#[]⟩ vs (W2.heap.size) len) 30)) ∧ w.heap.size ≤ W2.heap.size ∧ w.heap.size ≤ W3.heap.size ∧ W2.heap.size ≠ W3.heap.size ∧ (W3.alloc (.cells (recCells id acc (decB am) ⟨#[]⟩ vs (W2.heap.size) len) 30)).heap[W3.heap.size]? = some (.cells (recCells id acc (decB am) ⟨#[]⟩ vs (W2.heap.size) len) 30 (0, 0)) ∧ (W3.alloc (.cells (recCells id acc (decB am) ⟨#[]⟩ vs (W2.heap.size) len) 30)).heap[W2.heap.size]? = some (.cells (madeCells zRec (len * 2)) 33 (0, 0))) := ⟨hS4.1, hb2B.size, (hB2n).size, Nat.ne_of_lt hlt3, heap_alloc_new _ _, (heap_alloc_old _ _ hlt3).trans hrb⟩
        go_wp2
        go_meet
        case rel =>
          obtain ⟨f1, f2, f3, f4, f5, f6⟩ := HF.out
          exact ⟨W3.heap.size, W2.heap.size, _, rfl, f1, f2, f3, f4, f5, f6, size_madeCells _ _⟩
      · simp only [Act.put, List.setIfInBounds_toArray, List.set_cons_zero, List.set_cons_succ]
        generalize hq : W1.alloc (.cells (madeCells zRec (len * 2)) 33) = W1n at hBn hPn ⊢
        have hrb1 : W1n.heap[W1.heap.size]? = some (.cells (madeCells zRec (len * 2)) 33 (0, 0)) := by rw [← hq]; exact heap_alloc_new _ _
        clear hmk hmk1 hq
        refine one_call (i := 21) rfl (by kernel_rfl) (by rfl) 12 #[.agg #[.string ⟨#[]⟩, .int .i64 0], .int .i64 am] (by go_simp) ?_
        refine (format12 am ha0 ha1 W1n (fun X hX => HT.out X ((hBn).trans (hX.mono (hBn).size)))).mono ?_
        rintro e W2 ⟨rfl, hb2⟩
        have hb2B : Below w.heap.size w W2 := (hBn).trans (hb2.mono (hBn).size)
        have hb2P : PlanAt id acc am it vs len A pb ib W2 := (hPn).later hb2
        refine ⟨_, rfl, ⟨hb2B, hb2P⟩, ?_⟩
        simp only [Act.put, List.setIfInBounds_toArray, List.set_cons_zero, List.set_cons_succ]
        have hrb : W2.heap[W1.heap.size]? = some (.cells (madeCells zRec (len * 2)) 33 (0, 0)) := (hb2.block _ (Array.getElem?_eq_some_iff.1 hrb1).1).trans hrb1
        have hS3 : Below w.heap.size w W2 ∧ PlanAt id acc am it vs len A pb ib W2 := ⟨hb2B, hb2P⟩
        refine take_val (i := 32) rfl (by kernel_rfl) (by kernel_rfl) (by kernel_rfl) (fun _ _ _ h => h) (by rfl) (by intro w hw; go_simp; with_reducible rfl) (by assumption) ?_
        simp only [Act.put, List.setIfInBounds_toArray, List.set_cons_zero, List.set_cons_succ]
        have hS4 : Below w.heap.size w (W2.alloc (.cells (recCells id acc (decB am) ⟨#[]⟩ vs (W1.heap.size) len) 30)) ∧ PlanAt id acc am it vs len A pb ib (W2.alloc (.cells (recCells id acc (decB am) ⟨#[]⟩ vs (W1.heap.size) len) 30)) := ⟨(hb2B).alloc (hb2B).size _, (hb2P).later ((Below.refl _ _).alloc (Nat.le_refl _) _)⟩
        refine one_val (i := 33) (v := .pointer (some ⟨W2.heap.size, 0, none⟩)) (w2 := W2.alloc (.cells (recCells id acc (decB am) ⟨#[]⟩ vs (W1.heap.size) len) 30)) rfl (by kernel_rfl) (by rfl) (by go_simp; rfl) hS4 ?_
        simp only [Act.put, List.setIfInBounds_toArray, List.set_cons_zero, List.set_cons_succ]
        refine take_val (i := 34) rfl (by kernel_rfl) (by kernel_rfl) (by kernel_rfl) (fun _ _ _ h => h) (by rfl) (by intro w hw; go_simp; with_reducible rfl) (by assumption) ?_
        simp only [Act.put, List.setIfInBounds_toArray, List.set_cons_zero, List.set_cons_succ]
        refine wpAnyH_done (by kernel_rfl) ?_ _
        have hlt3 : W1.heap.size < W2.heap.size := (Array.getElem?_eq_some_iff.1 hrb).1
        have HF : Hid (Below w.heap.size w (W2.alloc (.cells (recCells id acc (decB am) ⟨#[]⟩ vs (W1.heap.size) len) 30)) ∧ w.heap.size ≤ W1.heap.size ∧ w.heap.size ≤ W2.heap.size ∧ W1.heap.size ≠ W2.heap.size ∧ (W2.alloc (.cells (recCells id acc (decB am) ⟨#[]⟩ vs (W1.heap.size) len) 30)).heap[W2.heap.size]? = some (.cells (recCells id acc (decB am) ⟨#[]⟩ vs (W1.heap.size) len) 30 (0, 0)) ∧ (W2.alloc (.cells (recCells id acc (decB am) ⟨#[]⟩ vs (W1.heap.size) len) 30)).heap[W1.heap.size]? = some (.cells (madeCells zRec (len * 2)) 33 (0, 0))) := ⟨hS4.1, hB1.size, (hb2B).size, Nat.ne_of_lt hlt3, heap_alloc_new _ _, (heap_alloc_old _ _ hlt3).trans hrb⟩
        go_wp2
        go_meet
        case rel =>
          obtain ⟨f1, f2, f3, f4, f5, f6⟩ := HF.out
          exact ⟨W2.heap.size, W1.heap.size, _, rfl, f1, f2, f3, f4, f5, f6, size_madeCells _ _⟩
    · simp only [Act.put, List.setIfInBounds_toArray, List.set_cons_zero, List.set_cons_succ]
      generalize hq : w.drew.alloc (.cells (madeCells zRec (len * 2)) 33) = W0 at hBm hPm ⊢
      have hrb0 : W0.heap[w.heap.size]? = some (.cells (madeCells zRec (len * 2)) 33 (0, 0)) := by rw [← hq]; exact heap_alloc_new _ _
      clear hmk hq
      refine one_call (i := 12) rfl (by kernel_rfl) (by rfl) 11 #[.agg #[.string ⟨#[]⟩, .int .i64 0]] (by go_simp) ?_
      refine (code11 _).mono ?_
      rintro e W1 ⟨rfl, hb1⟩
      have hB1 : Below w.heap.size w W1 := hBm.trans (hb1.mono hBm.size)
      have hP1 : PlanAt id acc am it vs len A pb ib W1 := hPm.later hb1
      refine ⟨_, rfl, ⟨hB1, hP1⟩, ?_⟩
      simp only [Act.put, List.setIfInBounds_toArray, List.set_cons_zero, List.set_cons_succ]
      refine one_call (i := 21) rfl (by kernel_rfl) (by rfl) 12 #[.agg #[.string ⟨#[]⟩, .int .i64 0], .int .i64 am] (by go_simp) ?_
      refine (format12 am ha0 ha1 W1 (fun X hX => HT.out X ((hB1).trans (hX.mono (hB1).size)))).mono ?_
      rintro e W2 ⟨rfl, hb2⟩
      have hb2B : Below w.heap.size w W2 := (hB1).trans (hb2.mono (hB1).size)
      have hb2P : PlanAt id acc am it vs len A pb ib W2 := (hP1).later hb2
      refine ⟨_, rfl, ⟨hb2B, hb2P⟩, ?_⟩
      simp only [Act.put, List.setIfInBounds_toArray, List.set_cons_zero, List.set_cons_succ]
      have hrb1 : W1.heap[w.heap.size]? = some (.cells (madeCells zRec (len * 2)) 33 (0, 0)) := (hb1.block _ (Array.getElem?_eq_some_iff.1 hrb0).1).trans hrb0
      have hrb : W2.heap[w.heap.size]? = some (.cells (madeCells zRec (len * 2)) 33 (0, 0)) := (hb2.block _ (Array.getElem?_eq_some_iff.1 hrb1).1).trans hrb1
      have hS3 : Below w.heap.size w W2 ∧ PlanAt id acc am it vs len A pb ib W2 := ⟨hb2B, hb2P⟩
      refine take_val (i := 32) rfl (by kernel_rfl) (by kernel_rfl) (by kernel_rfl) (fun _ _ _ h => h) (by rfl) (by intro w hw; go_simp; with_reducible rfl) (by assumption) ?_
      simp only [Act.put, List.setIfInBounds_toArray, List.set_cons_zero, List.set_cons_succ]
      have hS4 : Below w.heap.size w (W2.alloc (.cells (recCells id acc (decB am) ⟨#[]⟩ vs (w.heap.size) len) 30)) ∧ PlanAt id acc am it vs len A pb ib (W2.alloc (.cells (recCells id acc (decB am) ⟨#[]⟩ vs (w.heap.size) len) 30)) := ⟨(hb2B).alloc (hb2B).size _, (hb2P).later ((Below.refl _ _).alloc (Nat.le_refl _) _)⟩
      refine one_val (i := 33) (v := .pointer (some ⟨W2.heap.size, 0, none⟩)) (w2 := W2.alloc (.cells (recCells id acc (decB am) ⟨#[]⟩ vs (w.heap.size) len) 30)) rfl (by kernel_rfl) (by rfl) (by go_simp; rfl) hS4 ?_
      simp only [Act.put, List.setIfInBounds_toArray, List.set_cons_zero, List.set_cons_succ]
      refine take_val (i := 34) rfl (by kernel_rfl) (by kernel_rfl) (by kernel_rfl) (fun _ _ _ h => h) (by rfl) (by intro w hw; go_simp; with_reducible rfl) (by assumption) ?_
      simp only [Act.put, List.setIfInBounds_toArray, List.set_cons_zero, List.set_cons_succ]
      refine wpAnyH_done (by kernel_rfl) ?_ _
      have hlt3 : w.heap.size < W2.heap.size := (Array.getElem?_eq_some_iff.1 hrb).1
      have HF : Hid (Below w.heap.size w (W2.alloc (.cells (recCells id acc (decB am) ⟨#[]⟩ vs (w.heap.size) len) 30)) ∧ w.heap.size ≤ w.heap.size ∧ w.heap.size ≤ W2.heap.size ∧ w.heap.size ≠ W2.heap.size ∧ (W2.alloc (.cells (recCells id acc (decB am) ⟨#[]⟩ vs (w.heap.size) len) 30)).heap[W2.heap.size]? = some (.cells (recCells id acc (decB am) ⟨#[]⟩ vs (w.heap.size) len) 30 (0, 0)) ∧ (W2.alloc (.cells (recCells id acc (decB am) ⟨#[]⟩ vs (w.heap.size) len) 30)).heap[w.heap.size]? = some (.cells (madeCells zRec (len * 2)) 33 (0, 0))) := ⟨hS4.1, (Nat.le_refl _), (hb2B).size, Nat.ne_of_lt hlt3, heap_alloc_new _ _, (heap_alloc_old _ _ hlt3).trans hrb⟩
      go_wp2
      go_meet
      case rel =>
        obtain ⟨f1, f2, f3, f4, f5, f6⟩ := HF.out
        exact ⟨W2.heap.size, w.heap.size, _, rfl, f1, f2, f3, f4, f5, f6, size_madeCells _ _⟩
  case rest =>
    obtain ⟨qb, rb, c, rfl, hbel, hrb, hqb, hne, hq, hr, hcs⟩ := hcut
    have hPc := HP.out.later hbel
    have hc5 : wc.cell? ⟨pb, 5, none⟩ = some (.int .i64 it) := cell_of_row wc pb 5 _ _ _ hPc.plan
    go_upto_if 44 with fail
    go_cut [2] (fun _ wx => Below w.heap.size w wx ∧ wx.heap[qb]? = some (.cells (recCells id acc (decB am) (itStr it) vs rb len) 30 (0, 0)) ∧ wx.heap[rb]? = some (.cells c 33 (0, 0)))
    case first =>
      by_cases z : it = 0
      · have zb : (it != 0) = false := by simp [z]
        have HF : Hid (Below w.heap.size w wc ∧ wc.heap[qb]? = some (.cells (recCells id acc (decB am) (itStr it) vs rb len) 30 (0, 0)) ∧ wc.heap[rb]? = some (.cells c 33 (0, 0))) := ⟨hbel, by rw [itStr, if_pos z]; exact hq, hr⟩
        clear z
        go_wp2
        go_meet
        case rel => exact HF.out
      have zb : (it != 0) = true := by simp [z]
      go_wp2
      refine wp_region_held_drew (S := fun W => Below w.heap.size w W ∧ PlanAt id acc am it vs len A pb ib W) (by kernel_rfl) ⟨hbel.drew, hPc.later (Below.refl _ _).drew⟩ (fun hHeld => ?_)
      refine take_val (i := 0) rfl (by kernel_rfl) (by kernel_rfl) (by kernel_rfl) (fun _ _ _ h => h) (by rfl) (by intro w hw; go_simp; with_reducible rfl) (by assumption) ?_
      simp only [Act.put, List.setIfInBounds_toArray, List.set_cons_zero, List.set_cons_succ]
      refine take_val (i := 1) rfl (by kernel_rfl) (by kernel_rfl) (by kernel_rfl) (fun _ _ _ h => h) (by rfl) (by intro w hw; go_simp; with_reducible rfl) (by assumption) ?_
      simp only [Act.put, List.setIfInBounds_toArray, List.set_cons_zero, List.set_cons_succ]
      refine take_val (i := 2) rfl (by kernel_rfl) (by kernel_rfl) (by kernel_rfl) (fun _ _ _ h => h) (by rfl) (by intro w hw; go_simp; with_reducible rfl) (by assumption) ?_
      simp only [Act.put, List.setIfInBounds_toArray, List.set_cons_zero, List.set_cons_succ]
      refine take_val (i := 3) rfl (by kernel_rfl) (by kernel_rfl) (by kernel_rfl) (fun _ _ _ h => h) (by rfl) (by intro w hw; go_simp; with_reducible rfl) (by assumption) ?_
      simp only [Act.put, List.setIfInBounds_toArray, List.set_cons_zero, List.set_cons_succ]
      refine take_val (i := 4) (v := .agg #[.string ⟨#[]⟩, .int .i64 0]) rfl (by kernel_rfl) (by kernel_rfl) (by kernel_rfl) (fun _ _ _ h => h) (by rfl) (by
        intro w1 hw
        have hc0 : w1.cell? ⟨pb, 2, none⟩ = some (.string ⟨#[]⟩) := cell_of_row w1 pb 2 _ _ _ hw.2.plan
        have hc1 : w1.cell? ⟨pb, 3, none⟩ = some (.int .i64 0) := cell_of_row w1 pb 3 _ _ _ hw.2.plan
        go_simp) (by assumption) ?_
      simp only [Act.put, List.setIfInBounds_toArray, List.set_cons_zero, List.set_cons_succ]
      refine take_val (i := 5) rfl (by kernel_rfl) (by kernel_rfl) (by kernel_rfl) (fun _ _ _ h => h) (by rfl) (by intro w hw; go_simp; with_reducible rfl) (by assumption) ?_
      simp only [Act.put, List.setIfInBounds_toArray, List.set_cons_zero, List.set_cons_succ]
      refine take_val (i := 6) rfl (by kernel_rfl) (by kernel_rfl) (by kernel_rfl) (fun _ _ _ h => h) (by rfl) (by intro w hw; go_simp; with_reducible rfl) (by assumption) ?_
      simp only [Act.put, List.setIfInBounds_toArray, List.set_cons_zero, List.set_cons_succ]
      refine take_val (i := 7) rfl (by kernel_rfl) (by kernel_rfl) (by kernel_rfl) (fun _ _ _ h => h) (by rfl) (by intro w hw; go_simp; with_reducible rfl) (by assumption) ?_
      simp only [Act.put, List.setIfInBounds_toArray, List.set_cons_zero, List.set_cons_succ]
      refine take_val (i := 8) (v := .int .i64 it) rfl (by kernel_rfl) (by kernel_rfl) (by kernel_rfl) (fun _ _ _ h => h) (by rfl) (by
        intro w1 hw
        have hc0 : w1.cell? ⟨pb, 5, none⟩ = some (.int .i64 it) := cell_of_row w1 pb 5 _ _ _ hw.2.plan
        go_simp) (by assumption) ?_
      simp only [Act.put, List.setIfInBounds_toArray, List.set_cons_zero, List.set_cons_succ]
      refine one_call (i := 9) rfl (by kernel_rfl) (by rfl) 12 #[.agg #[.string ⟨#[]⟩, .int .i64 0], .int .i64 it] (by go_simp) ?_
      refine (format12 it hi0 hi1 wc.drew (fun X hX => HT.out X (hbel.drew.trans (hX.mono hbel.size)))).mono ?_
      rintro e W2 ⟨rfl, hb2⟩
      have hB2 : Below w.heap.size w W2 := hbel.drew.trans (hb2.mono hbel.size)
      have hP2 : PlanAt id acc am it vs len A pb ib W2 := (hPc.later (Below.refl _ _).drew).later hb2
      have hS2 : Below w.heap.size w W2 ∧ PlanAt id acc am it vs len A pb ib W2 := ⟨hB2, hP2⟩
      refine ⟨_, rfl, hS2, ?_⟩
      simp only [Act.put, List.setIfInBounds_toArray, List.set_cons_zero, List.set_cons_succ]
      refine take_val (i := 10) rfl (by kernel_rfl) (by kernel_rfl) (by kernel_rfl) (fun _ _ _ h => h) (by rfl) (by intro w hw; go_simp; with_reducible rfl) (by assumption) ?_
      simp only [Act.put, List.setIfInBounds_toArray, List.set_cons_zero, List.set_cons_succ]
      refine take_val (i := 11) rfl (by kernel_rfl) (by kernel_rfl) (by kernel_rfl) (fun _ _ _ h => h) (by rfl) (by intro w hw; go_simp; with_reducible rfl) (by assumption) ?_
      simp only [Act.put, List.setIfInBounds_toArray, List.set_cons_zero, List.set_cons_succ]
      have hq2 : W2.heap[qb]? = some (.cells (recCells id acc (decB am) ⟨#[]⟩ vs rb len) 30 (0, 0)) := (hb2.block _ (Array.getElem?_eq_some_iff.1 hq).1).trans hq
      have hr2 : W2.heap[rb]? = some (.cells c 33 (0, 0)) := (hb2.block _ (Array.getElem?_eq_some_iff.1 hr).1).trans hr
      have hq3 : (W2.setCell ⟨qb, 4, none⟩ (.string (decB it))).heap[qb]? = some (.cells (recCells id acc (decB am) (decB it) vs rb len) 30 (0, 0)) := (heap_setCell_same W2 qb 4 _ 30 _ hq2)
      have hst : (Instr.storeAt 9 (.pointer (some ⟨qb, 4, none⟩)) (.string (decB it))).run Tryd.prog W2 = .ok () (W2.setCell ⟨qb, 4, none⟩ (.string (decB it))) := by
        have hc4 : W2.cell? ⟨qb, 4, none⟩ = some (.string ⟨#[]⟩) := cell_of_row W2 qb 4 _ _ _ hq2
        have hf4 : W2.frozen? ⟨qb, 4, none⟩ = false := frozen_of_row W2 qb 4 _ 30 hq2
        go_simp
      have hS3 : Below w.heap.size w (W2.setCell ⟨qb, 4, none⟩ (.string (decB it))) ∧ PlanAt id acc am it vs len A pb ib (W2.setCell ⟨qb, 4, none⟩ (.string (decB it))) := by
        have hx : Below w.heap.size w (W2.setCell ⟨qb, 4, none⟩ (.string (decB it))) := below_setCells' (b := qb) hqb [.string (decB it)] 4 hB2
        exact ⟨hx, HP.out.later hx⟩
      refine one_skip (i := 12) rfl (by kernel_rfl) (by rfl) (w2 := W2.setCell ⟨qb, 4, none⟩ (.string (decB it))) (exec_store 9 (.tmp 56) (.tmp 54) rfl _ _ rfl rfl hst) hS3 ?_
      simp only [Act.put, List.setIfInBounds_toArray, List.set_cons_zero, List.set_cons_succ]
      refine wpAnyH_done (by kernel_rfl) ?_ _
      have HF : Hid (Below w.heap.size w (W2.setCell ⟨qb, 4, none⟩ (.string (decB it))) ∧ (W2.setCell ⟨qb, 4, none⟩ (.string (decB it))).heap[qb]? = some (.cells (recCells id acc (decB am) (itStr it) vs rb len) 30 (0, 0)) ∧ (W2.setCell ⟨qb, 4, none⟩ (.string (decB it))).heap[rb]? = some (.cells c 33 (0, 0))) := ⟨hS3.1, by rw [itStr, if_neg z]; exact hq3, (heap_setCell_other W2 ⟨qb, 4, none⟩ rb _ hne).trans hr2⟩
      generalize W2.setCell ⟨qb, 4, none⟩ (.string (decB it)) = W3 at HF ⊢
      clear hst hS3 hq3
      go_wp2
      go_meet
      case rel => exact HF.out
    case rest =>
      obtain ⟨hbel2, hq2, hr2⟩ := hcut
      have hPc2 := HP.out.later hbel2
      have hR0 : Hid (RecTo id acc am it vs len A qb rb w wc 0) := ⟨hbel2, hq2, RowsTo.start hr2 hcs, (Array.getElem?_eq_some_iff.1 hr2).1⟩
      have hc6 : wc.cell? ⟨pb, 6, none⟩ = some (.string ⟨#[]⟩) := cell_of_row wc pb 6 _ _ _ hPc2.plan
      have hc7 : wc.cell? ⟨pb, 7, none⟩ = some (.int .u64 0) := cell_of_row wc pb 7 _ _ _ hPc2.plan
      have hc9 : wc.cell? ⟨pb, 9, none⟩ = some (.slice (some ⟨ib, 0, none⟩) len len) := cell_of_row wc pb 9 _ _ _ hPc2.plan
      clear hq hr hbel hPc hc5 hbel2 hq2 hr2 hPc2
      go_wp2
      go_loopw [76] (fun i wr => ∃ k : Nat, k ≤ len ∧ i = .int .i64 k ∧ RecTo id acc am it vs len A qb rb w wr k) (fun i _ => len - (intOf i).toNat)
      case atStart => exact ⟨0, Nat.zero_le _, rfl, hR0.out⟩
      case round =>
        obtain ⟨k, hk, rfl, hR⟩ := hrel
        clear hR0 hc6 hc7 hc9
        by_cases hlt : k < len
        · have hPk := HP.out.later hR.bel
          have hix := index35 (ib := ib) hlt
          have hrow := hPk.ins.cell k hlt
          have r0 : wr.cell? ⟨ib, k * 6, none⟩ = some (.int .i64 ((k : Int) + 1)) := hrow 0 _ rfl
          have r1 : wr.cell? ⟨ib, k * 6 + 1, none⟩ = some (.int .i64 0) := hrow 1 _ rfl
          have r2 : wr.cell? ⟨ib, k * 6 + 2, none⟩ = some (.int .i64 0) := hrow 2 _ rfl
          have r3 : wr.cell? ⟨ib, k * 6 + 3, none⟩ = some (.int .i64 0) := hrow 3 _ rfl
          have r4 : wr.cell? ⟨ib, k * 6 + 4, none⟩ = some (.int .i64 (A k)) := hrow 4 _ rfl
          have r5 : wr.cell? ⟨ib, k * 6 + 5, none⟩ = some (.slice none 0 0) := hrow 5 _ rfl
          have HR := Lib.hid hR
          have HPk := Lib.hid hPk
          clear hR hPk hrow
          go_wp2
          obtain ⟨nb, hnb⟩ : ∃ nb, nb = wr.heap.size := ⟨_, rfl⟩
          rw [← hnb]
          generalize hWn : (World.alloc wr _) = Wn
          have hwn : Below wr.heap.size wr Wn := by rw [← hWn]; exact (Below.refl _ _).alloc (Nat.le_refl _) _
          have hbox : Wn.heap[nb]? = some (.cells (insCells k (A k)) 42 (0, 0)) := by rw [← hWn, hnb]; exact heap_alloc_new _ _
          have hR := HR.out
          have hbn : Below w.heap.size w Wn := hR.bel.trans (hwn.mono hR.bel.size)
          have hPn : PlanAt id acc am it vs len A pb ib Wn := HPk.out.later hwn
          have hqn : Wn.heap[qb]? = some (.cells (recCells id acc (decB am) (itStr it) vs rb len) 30 (0, 0)) := (hwn.block _ (Array.getElem?_eq_some_iff.1 hR.recd).1).trans hR.recd
          have hrn : RowsTo 2 (recRow A) len rb Wn k := hR.rows.of_block (hwn.block _ hR.lt)
          have hrl : rb < Wn.heap.size := Nat.lt_of_lt_of_le hR.lt hwn.size
          have hi28 := index28 (ib := rb) hlt
          replace hnb := Lib.hid hnb
          clear hR hWn r0 r1 r2 r3 r4 r5 hix
          refine wp_region_held_drew (S := fun W => Below w.heap.size w W ∧ PlanAt id acc am it vs len A pb ib W ∧ W.heap[qb]? = some (.cells (recCells id acc (decB am) (itStr it) vs rb len) 30 (0, 0)) ∧ W.heap[nb]? = some (.cells (insCells k (A k)) 42 (0, 0))) (by kernel_rfl) ⟨hbn.drew, hPn.later (Below.refl _ _).drew, hqn, hbox⟩ (fun hHeld => ?_)
          refine take_val (i := 0) rfl (by kernel_rfl) (by kernel_rfl) (by kernel_rfl) (fun _ _ _ h => h) (by rfl) (by intro w hw; go_simp; with_reducible rfl) (by assumption) ?_
          simp only [Act.put, List.setIfInBounds_toArray, List.set_cons_zero, List.set_cons_succ]
          refine take_val (i := 1) rfl (by kernel_rfl) (by kernel_rfl) (by kernel_rfl) (fun _ _ _ h => h) (by rfl) (by intro w hw; go_simp; with_reducible rfl) (by assumption) ?_
          simp only [Act.put, List.setIfInBounds_toArray, List.set_cons_zero, List.set_cons_succ]
          refine take_val (i := 2) rfl (by kernel_rfl) (by kernel_rfl) (by kernel_rfl) (fun _ _ _ h => h) (by rfl) (by intro w hw; go_simp; with_reducible rfl) (by assumption) ?_
          simp only [Act.put, List.setIfInBounds_toArray, List.set_cons_zero, List.set_cons_succ]
          refine take_val (i := 3) (v := .slice (some ⟨rb, 0, none⟩) len len) rfl (by kernel_rfl) (by kernel_rfl) (by kernel_rfl) (fun _ _ _ h => h) (by rfl) (by
            intro w1 hw
            have hc0 : w1.cell? ⟨qb, 7, none⟩ = some (.slice (some ⟨rb, 0, none⟩) len len) := cell_of_row w1 (qb) 7 _ _ _ hw.2.2.1
            go_simp) (by assumption) ?_
          simp only [Act.put, List.setIfInBounds_toArray, List.set_cons_zero, List.set_cons_succ]
          refine take_val (i := 4) rfl (by kernel_rfl) (by kernel_rfl) (by kernel_rfl) (fun _ _ _ h => h) (by rfl) (by intro w hw; go_simp; with_reducible rfl) (by assumption) ?_
          simp only [Act.put, List.setIfInBounds_toArray, List.set_cons_zero, List.set_cons_succ]
          refine take_val (i := 5) rfl (by kernel_rfl) (by kernel_rfl) (by kernel_rfl) (fun _ _ _ h => h) (by rfl) (by intro w hw; go_simp; with_reducible rfl) (by assumption) ?_
          simp only [Act.put, List.setIfInBounds_toArray, List.set_cons_zero, List.set_cons_succ]
          refine take_val (i := 6) (v := .agg #[.int .i64 0, .int .i64 0, .int .i64 0]) rfl (by kernel_rfl) (by kernel_rfl) (by kernel_rfl) (fun _ _ _ h => h) (by rfl) (by
            intro w1 hw
            have hc0 : w1.cell? ⟨nb, 1, none⟩ = some (.int .i64 0) := cell_of_row w1 (nb) 1 _ _ _ hw.2.2.2
            have hc1 : w1.cell? ⟨nb, 2, none⟩ = some (.int .i64 0) := cell_of_row w1 (nb) 2 _ _ _ hw.2.2.2
            have hc2 : w1.cell? ⟨nb, 3, none⟩ = some (.int .i64 0) := cell_of_row w1 (nb) 3 _ _ _ hw.2.2.2
            go_simp) (by assumption) ?_
          simp only [Act.put, List.setIfInBounds_toArray, List.set_cons_zero, List.set_cons_succ]
          refine take_val (i := 8) rfl (by kernel_rfl) (by kernel_rfl) (by kernel_rfl) (fun _ _ _ h => h) (by rfl) (by intro w hw; go_simp; with_reducible rfl) (by assumption) ?_
          simp only [Act.put, List.setIfInBounds_toArray, List.set_cons_zero, List.set_cons_succ]
          refine take_val (i := 9) rfl (by kernel_rfl) (by kernel_rfl) (by kernel_rfl) (fun _ _ _ h => h) (by rfl) (by intro w hw; go_simp; with_reducible rfl) (by assumption) ?_
          simp only [Act.put, List.setIfInBounds_toArray, List.set_cons_zero, List.set_cons_succ]
          refine take_val (i := 10) rfl (by kernel_rfl) (by kernel_rfl) (by kernel_rfl) (fun _ _ _ h => h) (by rfl) (by intro w hw; go_simp; with_reducible rfl) (by assumption) ?_
          simp only [Act.put, List.setIfInBounds_toArray, List.set_cons_zero, List.set_cons_succ]
          refine take_val (i := 11) (v := .agg #[.string ⟨#[]⟩, .int .i64 0]) rfl (by kernel_rfl) (by kernel_rfl) (by kernel_rfl) (fun _ _ _ h => h) (by rfl) (by
            intro w1 hw
            have hc0 : w1.cell? ⟨pb, 2, none⟩ = some (.string ⟨#[]⟩) := cell_of_row w1 (pb) 2 _ _ _ hw.2.1.plan
            have hc1 : w1.cell? ⟨pb, 3, none⟩ = some (.int .i64 0) := cell_of_row w1 (pb) 3 _ _ _ hw.2.1.plan
            go_simp) (by assumption) ?_
          simp only [Act.put, List.setIfInBounds_toArray, List.set_cons_zero, List.set_cons_succ]
          refine take_val (i := 12) rfl (by kernel_rfl) (by kernel_rfl) (by kernel_rfl) (fun _ _ _ h => h) (by rfl) (by intro w hw; go_simp; with_reducible rfl) (by assumption) ?_
          simp only [Act.put, List.setIfInBounds_toArray, List.set_cons_zero, List.set_cons_succ]
          refine take_val (i := 13) (v := .int .i64 (A k)) rfl (by kernel_rfl) (by kernel_rfl) (by kernel_rfl) (fun _ _ _ h => h) (by rfl) (by
            intro w1 hw
            have hc0 : w1.cell? ⟨nb, 4, none⟩ = some (.int .i64 (A k)) := cell_of_row w1 (nb) 4 _ _ _ hw.2.2.2
            go_simp) (by assumption) ?_
          simp only [Act.put, List.setIfInBounds_toArray, List.set_cons_zero, List.set_cons_succ]
          have hB_W0 : Below w.heap.size w Wn.drew := hbn.drew
          have hP_W0 : PlanAt id acc am it vs len A pb ib Wn.drew := hPn.later (Below.refl _ _).drew
          have hq_W0 : Wn.drew.heap[qb]? = some (.cells (recCells id acc (decB am) (itStr it) vs rb len) 30 (0, 0)) := hqn
          have hx_W0 : Wn.drew.heap[nb]? = some (.cells (insCells k (A k)) 42 (0, 0)) := hbox
          have hr_W0 : RowsTo 2 (recRow A) len rb Wn.drew k := hrn.of_block rfl
          have hl_W0 : rb < Wn.drew.heap.size := hrl
          refine one_call (i := 7) rfl (by kernel_rfl) (by rfl) 14 #[.agg #[.int .i64 0, .int .i64 0, .int .i64 0]] (by go_simp) ?_
          refine (date14 _).mono ?_
          rintro e W1 ⟨rfl, hb1⟩
          have hb1B : Below w.heap.size w W1 := hB_W0.trans (hb1.mono hB_W0.size)
          have hB_W1 := hb1B
          have hP_W1 : PlanAt id acc am it vs len A pb ib W1 := hP_W0.later hb1
          have hq_W1 : W1.heap[qb]? = some (.cells (recCells id acc (decB am) (itStr it) vs rb len) 30 (0, 0)) := (hb1.block _ (Array.getElem?_eq_some_iff.1 hq_W0).1).trans hq_W0
          have hx_W1 : W1.heap[nb]? = some (.cells (insCells k (A k)) 42 (0, 0)) := (hb1.block _ (Array.getElem?_eq_some_iff.1 hx_W0).1).trans hx_W0
          have hr_W1 : RowsTo 2 (recRow A) len rb W1 k := hr_W0.of_block (hb1.block _ hl_W0)
          have hl_W1 : rb < W1.heap.size := Nat.lt_of_lt_of_le hl_W0 hb1.size
          refine ⟨_, rfl, ⟨hB_W1, hP_W1, hq_W1, hx_W1⟩, ?_⟩
          simp only [Act.put, List.setIfInBounds_toArray, List.set_cons_zero, List.set_cons_succ]
          refine one_call (i := 14) rfl (by kernel_rfl) (by rfl) 12 #[.agg #[.string ⟨#[]⟩, .int .i64 0], .int .i64 (A k)] (by go_simp) ?_
          refine (format12 (A k) (hA0 k hlt) (hA1 k hlt) W1 (fun Y hY => HT.out Y (hB_W1.trans (hY.mono hB_W1.size)))).mono ?_
          rintro e W2 ⟨rfl, hb2⟩
          have hb2B : Below w.heap.size w W2 := hB_W1.trans (hb2.mono hB_W1.size)
          have hB_W2 := hb2B
          have hP_W2 : PlanAt id acc am it vs len A pb ib W2 := hP_W1.later hb2
          have hq_W2 : W2.heap[qb]? = some (.cells (recCells id acc (decB am) (itStr it) vs rb len) 30 (0, 0)) := (hb2.block _ (Array.getElem?_eq_some_iff.1 hq_W1).1).trans hq_W1
          have hx_W2 : W2.heap[nb]? = some (.cells (insCells k (A k)) 42 (0, 0)) := (hb2.block _ (Array.getElem?_eq_some_iff.1 hx_W1).1).trans hx_W1
          have hr_W2 : RowsTo 2 (recRow A) len rb W2 k := hr_W1.of_block (hb2.block _ hl_W1)
          have hl_W2 : rb < W2.heap.size := Nat.lt_of_lt_of_le hl_W1 hb2.size
          have hS2 : Below w.heap.size w W2 ∧ PlanAt id acc am it vs len A pb ib W2 ∧ W2.heap[qb]? = some (.cells (recCells id acc (decB am) (itStr it) vs rb len) 30 (0, 0)) ∧ W2.heap[nb]? = some (.cells (insCells k (A k)) 42 (0, 0)) := ⟨hB_W2, hP_W2, hq_W2, hx_W2⟩
          refine ⟨_, rfl, hS2, ?_⟩
          simp only [Act.put, List.setIfInBounds_toArray, List.set_cons_zero, List.set_cons_succ]
          refine take_val (i := 15) rfl (by kernel_rfl) (by kernel_rfl) (by kernel_rfl) (fun _ _ _ h => h) (by rfl) (by intro w hw; go_simp; with_reducible rfl) (by assumption) ?_
          simp only [Act.put, List.setIfInBounds_toArray, List.set_cons_zero, List.set_cons_succ]
          refine take_val (i := 16) rfl (by kernel_rfl) (by kernel_rfl) (by kernel_rfl) (fun _ _ _ h => h) (by rfl) (by intro w hw; go_simp; with_reducible rfl) (by assumption) ?_
          simp only [Act.put, List.setIfInBounds_toArray, List.set_cons_zero, List.set_cons_succ]
          have hst : (Instr.storeAt 33 (.pointer (some ⟨rb, k * 2, none⟩)) (.agg #[.string zdateS, .string (decB (A k))])).run Tryd.prog W2 = .ok () (W2.setCells rb (k * 2) (recRow A k).toList) := run_storeAt_mid (P := Tryd.prog) W2 rb (k * 2) 33 (recRow A k) (hr_W2.room hlt) (by kernel_rfl) (by simp [recRow, Value.oneCell'])
          have hb3 : Below w.heap.size w (W2.setCells rb (k * 2) (recRow A k).toList) := below_setCells' hrb _ _ hB_W2
          have hq3 : (W2.setCells rb (k * 2) (recRow A k).toList).heap[qb]? = some (.cells (recCells id acc (decB am) (itStr it) vs rb len) 30 (0, 0)) := (heap_setCells_other (Ne.symm hne) _ _ _).trans hq_W2
          have hnr : nb ≠ rb := by have := (Array.getElem?_eq_some_iff.1 HR.out.recd).1; have := HR.out.lt; have := hnb.out; omega
          have hS3 : Below w.heap.size w (W2.setCells rb (k * 2) (recRow A k).toList) ∧ PlanAt id acc am it vs len A pb ib (W2.setCells rb (k * 2) (recRow A k).toList) ∧ (W2.setCells rb (k * 2) (recRow A k).toList).heap[qb]? = some (.cells (recCells id acc (decB am) (itStr it) vs rb len) 30 (0, 0)) ∧ (W2.setCells rb (k * 2) (recRow A k).toList).heap[nb]? = some (.cells (insCells k (A k)) 42 (0, 0)) := ⟨hb3, HP.out.later hb3, hq3, (heap_setCells_other hnr _ _ _).trans hx_W2⟩
          refine one_skip (i := 17) rfl (by kernel_rfl) (by rfl) (w2 := W2.setCells rb (k * 2) (recRow A k).toList) (exec_store 33 (.tmp 97) (.tmp 96) rfl _ _ rfl rfl hst) hS3 ?_
          simp only [Act.put, List.setIfInBounds_toArray, List.set_cons_zero, List.set_cons_succ]
          refine wpAnyH_done (by kernel_rfl) ?_ _
          have HN : Hid (RecTo id acc am it vs len A qb rb w (W2.setCells rb (k * 2) (recRow A k).toList) (k + 1)) := ⟨hb3, hq3, hr_W2.next hlt (fun _ => rfl), by rw [size_setCells]; exact hl_W2⟩
          clear hst hS3 hb3 hq3 hS2 hi28 hHeld
          generalize W2.setCells rb (k * 2) (recRow A k).toList = W3 at HN ⊢
          go_wp2
          go_roundw
          case rel => exact ⟨k + 1, by omega, by go_num, HN.out⟩
          case measure => simp [intOf]; omega
        · have : k = len := by omega
          subst this
          have HR := Lib.hid hR
          clear hR
          go_wp2
          go_ret
          exact ⟨qb, rb, rfl, HR.out⟩
end Go.Proofs.Qxb6615936aDoor
