/-
  (*linking).drop: the walk.
-/
import Derived.Test.Qxb6614780aPend
import Derived.Deep.LoopGhost
import Derived.Deep.RegionWith
import Derived.Deep.RegionHeld3
namespace Go.Proofs.Qxb6614780a
open Go.RowKit

theorem Try.info85 : (Try.prog.info? 85).map (fun i => (i.zero, i.size, i.bytes)) = some (some .nilIface, 1, 16) := by kernel_rfl

theorem as94_82 (v : Value) (w : World) : (Instr.typeAssert (.iface 94 v) 85 82 true).run Try.prog w = .ok (.tuple #[.slice none 0 0, .bool false]) w := by kernel_rfl
theorem as94_80 (v : Value) (w : World) : (Instr.typeAssert (.iface 94 v) 85 80 true).run Try.prog w = .ok (.tuple #[.slice none 0 0, .bool false]) w := by kernel_rfl
theorem as94_94 (v : Value) (w : World) : (Instr.typeAssert (.iface 94 v) 85 94 true).run Try.prog w = .ok (.tuple #[v, .bool true]) w := by kernel_rfl
theorem as82_82 (v : Value) (w : World) : (Instr.typeAssert (.iface 82 v) 85 82 true).run Try.prog w = .ok (.tuple #[v, .bool true]) w := by kernel_rfl
theorem as80_82 (v : Value) (w : World) : (Instr.typeAssert (.iface 80 v) 85 82 true).run Try.prog w = .ok (.tuple #[.slice none 0 0, .bool false]) w := by kernel_rfl
theorem as80_80 (v : Value) (w : World) : (Instr.typeAssert (.iface 80 v) 85 80 true).run Try.prog w = .ok (.tuple #[v, .bool true]) w := by kernel_rfl
theorem as83_82 (v : Value) (w : World) : (Instr.typeAssert (.iface 83 v) 85 82 true).run Try.prog w = .ok (.tuple #[.slice none 0 0, .bool false]) w := by kernel_rfl
theorem as83_80 (v : Value) (w : World) : (Instr.typeAssert (.iface 83 v) 85 80 true).run Try.prog w = .ok (.tuple #[.slice none 0 0, .bool false]) w := by kernel_rfl
theorem as83_94 (v : Value) (w : World) : (Instr.typeAssert (.iface 83 v) 85 94 true).run Try.prog w = .ok (.tuple #[.agg #[.slice none 0 0, .nilIface], .bool false]) w := by kernel_rfl
theorem as83_83 (v : Value) (w : World) : (Instr.typeAssert (.iface 83 v) 85 83 true).run Try.prog w = .ok (.tuple #[v, .bool true]) w := by kernel_rfl

def DropPost (E : Env) (s : GS) (e : Ending) (w' : World) : Prop := e = .returned (.tuple #[]) ∧ St E w' (opens E.r s E.Y.gLnks)

/-- The loop's relation. -/
def DropRel (E : Env) (s0 : GS) (gk : Nat) (v6 : Value) (wr : World) : Prop :=
  ∃ (g cap K : Nat) (l : List (Nat × Nat × Nat)) (s : GS), v6 = .slice (some ⟨g, 0, none⟩) K cap ∧ K = l.length ∧ Pend E wr g cap l ∧ St E wr s ∧ opens E.r s (E.Y.todo l) = opens E.r s0 E.Y.gLnks ∧ (∀ it ∈ l, E.Y.ok it) ∧ gk = E.Y.wts l ∧ gk ≤ E.Y.gW + 2

theorem Pend.push {E : Env} {w1 w2 : World} {s : GS} {g cap g' cap' k : Nat} {l : List (Nat × Nat × Nat)} {it : Nat × Nat × Nat} {x : Value} (h : Pend E w1 g cap l) (hS : St E w1 s) (hx : E.Y.val it = x) (hk : k = l.length)
    (hown : w2.ownsRow E.w0.heap.size 85 1 (.slice (some ⟨g', 0, none⟩) (k + 1) cap') (k + 1) (l.map E.Y.val ++ [x])) (hg : w1.grownBy w2 (some g)) : Pend E w2 g' cap' (l ++ [it]) ∧ St E w2 s := by
  subst hx hk
  obtain ⟨cur, hc, hge⟩ := h.row
  exact ⟨by simpa [Pend] using hown, hS.grown hc hge hg⟩

theorem Pend.at {E : Env} {w : World} {g cap k : Nat} {l : List (Nat × Nat × Nat)} (h : Pend E w g cap l) (hk : k = l.length) : w.ownsRow E.w0.heap.size 85 1 (.slice (some ⟨g, 0, none⟩) k cap) k (l.map E.Y.val) := by
  subst hk; exact h

theorem val_iface (Y : Lay) (it : Nat × Nat × Nat) : ∃ t x, Y.val it = .iface t x := by
  unfold Lay.val
  split <;> exact ⟨_, _, rfl⟩

/-- What is appended, one cell in a block of its own, the last one made. -/
theorem news_last (w : World) (B : Nat) (hB : B = w.heap.size) (x : Value) (t : Nat) : ∀ j u, [x][j]? = some u → (w.alloc (.cells #[x] t)).cell? ((⟨B, 0, none⟩ : Addr).add j) = some u := by
  subst hB
  exact World.news_of_block (heap_alloc_at w _)
theorem one_iface (t : Nat) (x : Value) : ∀ u ∈ [Value.iface t x], u.oneCell' = true := by
  intro u hu; simp at hu; subst hu; rfl

theorem DropRel.push {E : Env} {s0 s1 : GS} {w : World} {g cap k : Nat} {l0 kids : List (Nat × Nat × Nat)} {it : Nat × Nat × Nat} (hk : k = l0.length + kids.length) (hP : Pend E w g cap (l0 ++ kids)) (hS : St E w s1)
    (HT : opens E.r s1 (E.Y.todo (l0 ++ [it])) = opens E.r s0 E.Y.gLnks) (HO : ∀ it' ∈ l0, E.Y.ok it') (ho : ∀ it' ∈ kids, E.Y.ok it') (hto : E.Y.todo kids = E.Y.lnks it) (hb : E.Y.wts (l0 ++ kids) ≤ E.Y.gW + 2) :
    DropRel E s0 (E.Y.wts (l0 ++ kids)) (.slice (some ⟨g, 0, none⟩) k cap) w := by
  refine ⟨g, cap, k, l0 ++ kids, s1, rfl, by simp [hk], hP, hS, ?_, ?_, rfl, hb⟩
  · rw [← HT, todo_append, todo_append, hto, todo_one]
  · intro it' h'
    rcases List.mem_append.1 h' with h' | h'
    · exact HO it' h'
    · exact ho it' h'

set_option maxRecDepth 100000 in
set_option maxHeartbeats 1600000 in
theorem drop_any (E : Env) (s : GS) (w : World) (hw : E.w0 = w) (hst : St E w s) (hW : E.Y.gW ≤ 1000000) :
    Calls Try.prog 29 #[.pointer (some ⟨E.lb, 0, none⟩), E.v, .iface 94 (.agg #[.slice (some ⟨E.Y.sb 0, 0, none⟩) 1 1, .nilIface])] w (DropPost E s) := by
  obtain ⟨i0, hi, hz0, hz1, hz2⟩ := info_parts Try.info85
  go_enter Try.func29, Try.ntmps29
  go_wp2
  go_loopg [6] (E.Y.gW + 2) (fun gk v6 wr => DropRel E s gk v6 wr)
  case atStart =>
    refine ⟨w.heap.size, 1, 1, [(0, 0, 0)], s, rfl, rfl, ?_, hst.alloc _, by simp [todo_one, Lay.lnks], ?_, by simp [wts_one, Lay.wt], by omega⟩
    · refine ⟨rfl, .inr ⟨w.heap.size, 1, #[E.Y.val (0, 0, 0)], rfl, by rw [hw]; exact Nat.le_refl _, heap_alloc_at _ _, Nat.le_refl _, by decide, rfl, rfl⟩⟩
    · intro it hit; simp at hit; exact .inl hit
  case round =>
    obtain ⟨g, cap, K, l, s1, rfl, hK, hP, hS, hto, hok, hgk, hgW⟩ := hrel
    by_cases h0 : K = 0
    · subst h0
      have : l = [] := List.eq_nil_of_length_eq_zero hK.symm
      subst this
      rw [todo_nil] at hto
      have HT : Hid (opens E.r s1 [] = opens E.r s E.Y.gLnks) := hto
      clear hto hok hgk hP hst hw hK
      go_wp2
      go_end0
      refine ⟨rfl, ?_⟩
      rw [← HT.out]
      exact hS
    · obtain ⟨l0, it, rfl⟩ : ∃ l0 it, l = l0 ++ [it] := ⟨l.dropLast, l.getLast (by rintro rfl; simp at hK; exact h0 hK), (List.dropLast_concat_getLast _).symm⟩
      obtain rfl : K = l0.length + 1 := by simpa using hK
      clear hK h0
      have hcell := hP.last
      have hP' := hP.pop
      have hcap : l0.length + 1 ≤ cap ∧ cap ≤ 9223372036854775807 := by have := hP.cap_le; unfold maxLen at this; simpa using this
      have hlen := len_wts E.Y l0
      have hlw := wts_append E.Y l0 [it]
      rw [wts_one, ← hgk] at hlw
      have hb : l0.length ≤ 1000002 := by omega
      have hw0 : E.w0.heap.size ≤ wr.heap.size := hS.kept.size
      have HT : Hid (opens E.r s1 (E.Y.todo (l0 ++ [it])) = opens E.r s E.Y.gLnks) := hto
      have HG : Hid (gk = E.Y.wts l0 + E.Y.wt it) := hlw
      have HO : Hid (∀ it' ∈ l0, E.Y.ok it') := fun it' h' => hok it' (by simp [h'])
      clear hto hlw hgk
      rcases hok it (by simp) with rfl | ⟨i, hi', rfl⟩ | rfl | ⟨i, j, hi', hj, rfl⟩
      · have hcell' : wr.cell? ⟨g, l0.length, none⟩ = some (.iface 94 (.agg #[.slice (some ⟨E.Y.sb 0, 0, none⟩) 1 1, .nilIface])) := hcell
        clear hcell hP hok hst hw
        have f1 := as94_82
        have f2 := as94_80
        have f3 := as94_94
        go_wp2_with (at_builtin; refine wpList_append_lies _ rfl _ _ 128 rfl E.w0.heap.size 85 i0 .nilIface 1 16 Try.underlying128 hi hz0 hz1 hz2 rfl (by decide) _ l0.length (l0.map E.Y.val) rfl ((hP'.alloc _).alloc _) ⟨wr.heap.size + 1, 0, none⟩ 1 1 [.iface 82 (.slice (some ⟨E.Y.sb 0, 0, none⟩) 1 1)] rfl rfl ?_ ?_ (by decide) ?_ ?_ ?_ (wr.heap.size + 2) ?_ ?_)
        · exact news_last _ _ (by simp) _ _
        · exact one_iface _ _
        · unfold maxLen; omega
        · omega
        · simp; omega
        · simp
        intro g1 cap1 w1 hown1 hgrow _ _
        have hR := ((hP'.alloc _).alloc _).push (it := (1, 0, 0)) ((hS.alloc _).alloc _) (by simp [Lay.val, hS.mem.one]) rfl hown1 hgrow
        clear hown1 hgrow hP' hS hi hz0 hz1 hz2 f1 f2 f3 hcell'
        go_wp2
        have e1 := HG.out
        have e2 : E.Y.wts (l0 ++ [(1, 0, 0)]) = E.Y.wts l0 + (E.Y.gW + 1) := by rw [wts_append, wts_one]; rfl
        have e3 : E.Y.wt (0, 0, 0) = E.Y.gW + 2 := rfl
        go_roundg (E.Y.wts (l0 ++ [(1, 0, 0)]))
        case measure => omega
        case rel => exact DropRel.push (it := (0, 0, 0)) rfl hR.1 hR.2 HT.out HO.out (by intro it' h'; simp at h'; exact .inr (.inl ⟨0, Nat.zero_le _, h'⟩)) (by simp [todo_one, Lay.lnks]) (by omega)
      · have hcell' : wr.cell? ⟨g, l0.length, none⟩ = some (.iface 82 (.slice (some ⟨E.Y.sb i, 0, none⟩) (E.Y.m i) (E.Y.m i))) := hcell
        clear hcell hP hok hst hw
        have one := hS.mem.one
        have Hone : Hid (E.Y.m 0 = 1) := one
        have hws := wts_stack E.Y one i
        have hmi : E.Y.m i ≤ 2000000 := by
          have := HG.out
          have := len_wts E.Y ((List.range (E.Y.m i)).map (el i))
          simp at this
          omega
        have HW : Hid (E.Y.wts ((List.range (E.Y.m i)).map (el i)) + 1 = E.Y.wt (1, i, 0)) := hws
        clear one hws
        have f1 := as82_82
        go_wp2
        go_loopg [6, 38] (E.Y.m i) (fun gq v6 v38 w' => ∃ (g' cap' q : Nat), q ≤ E.Y.m i ∧ gq = E.Y.m i - q ∧ v38 = .int .i64 q ∧ v6 = .slice (some ⟨g', 0, none⟩) (l0.length + q) cap' ∧ Pend E w' g' cap' (l0 ++ (List.range q).map (el i)) ∧ St E w' s1)
        case atStart => exact ⟨g, cap, 0, Nat.zero_le _, rfl, rfl, rfl, by simpa using hP', hS⟩
        case round =>
          clear hP' hS hcell' hw0
          obtain ⟨g', cap', q, hq, hgq, rfl, rfl, hP, hS⟩ := hrel
          have HQ : Hid (gk = E.Y.m i - q) := hgq
          clear hgq
          have hw0 : E.w0.heap.size ≤ wr.heap.size := hS.kept.size
          by_cases hlt : q < E.Y.m i
          · have hc0 := hS.mem.scell hi' hlt
            have hc1 := hS.mem.scell1 hi' hlt
            obtain ⟨t, x, hx⟩ := val_iface E.Y (el i q)
            rw [hx] at hc0
            have HX : Hid (E.Y.val (el i q) = .iface t x) := hx
            clear hx
            have hown := hP.at (k := l0.length + q) (by simp)
            go_wp2_with (at_builtin; refine wpList_append_lies _ rfl _ _ 128 rfl E.w0.heap.size 85 i0 .nilIface 1 16 Try.underlying128 hi hz0 hz1 hz2 rfl (by decide) _ (l0.length + q) ((l0 ++ (List.range q).map (el i)).map E.Y.val) rfl ((hown.alloc _).alloc _) ⟨wr.heap.size + 1, 0, none⟩ 1 1 [.iface t x] rfl rfl ?_ ?_ (by decide) ?_ ?_ ?_ (wr.heap.size + 2) ?_ ?_)
            · exact news_last _ _ (by simp) _ _
            · exact one_iface _ _
            · unfold maxLen; omega
            · omega
            · simp; omega
            · simp
            intro g1 cap1 w1 hown1 hgrow _ _
            have hR := ((hP.alloc _).alloc _).push (k := l0.length + q) (it := el i q) ((hS.alloc _).alloc _) HX.out (by simp) (by simpa using hown1) hgrow
            clear hown1 hgrow hP hS hown hc0 hc1
            go_wp2
            go_roundg (E.Y.m i - (q + 1))
            case measure => have := HQ.out; omega
            case rel => exact ⟨g1, cap1, q + 1, by omega, rfl, by go_num, by rw [Nat.add_assoc], by rw [List.range_succ, List.map_append, ← List.append_assoc]; exact hR.1, hR.2⟩
          · have : q = E.Y.m i := by omega
            subst this
            clear f1 hi hz0 hz1 hz2
            go_wp2
            have e1 := HG.out
            have e2 := HW.out
            have e3 := wts_append E.Y l0 ((List.range (E.Y.m i)).map (el i))
            go_roundg (E.Y.wts (l0 ++ (List.range (E.Y.m i)).map (el i)))
            case measure => omega
            case rel => exact DropRel.push (it := (1, i, 0)) (by simp) hP hS HT.out HO.out (by intro it' h'; obtain ⟨j, hj, rfl⟩ := List.mem_map.1 h'; exact ok_el E.Y hi' (by simpa using hj)) (todo_stack E.Y Hone.out i) (by omega)
      · have hcell' : wr.cell? ⟨g, l0.length, none⟩ = some (.iface 80 (.slice (some ⟨E.Y.gb, 0, none⟩) E.Y.N E.Y.N)) := hcell
        clear hcell hP hok hst hw
        have hws := wts_group E.Y
        have hmi : E.Y.N ≤ 2000000 := by
          have := HG.out
          have := len_wts E.Y ((List.range E.Y.N).map fun i => (1, i + 1, 0))
          simp at this
          omega
        have HW : Hid (E.Y.wts ((List.range E.Y.N).map fun i => (1, i + 1, 0)) + 1 = E.Y.wt (2, 0, 0)) := hws
        clear hws
        have f1 := as80_82
        have f2 := as80_80
        go_wp2
        go_loopg [6, 53] E.Y.N (fun gq v6 v38 w' => ∃ (g' cap' q : Nat), q ≤ E.Y.N ∧ gq = E.Y.N - q ∧ v38 = .int .i64 q ∧ v6 = .slice (some ⟨g', 0, none⟩) (l0.length + q) cap' ∧ Pend E w' g' cap' (l0 ++ (List.range q).map fun i => (1, i + 1, 0)) ∧ St E w' s1)
        case atStart => exact ⟨g, cap, 0, Nat.zero_le _, rfl, rfl, rfl, by simpa using hP', hS⟩
        case round =>
          clear hP' hS hcell' hw0
          obtain ⟨g', cap', q, hq, hgq, rfl, rfl, hP, hS⟩ := hrel
          have HQ : Hid (gk = E.Y.N - q) := hgq
          clear hgq
          have hw0 : E.w0.heap.size ≤ wr.heap.size := hS.kept.size
          by_cases hlt : q < E.Y.N
          · have hc0 := hS.mem.gcell hlt
            have hown := hP.at (k := l0.length + q) (by simp)
            go_wp2_with (at_builtin; refine wpList_append_lies _ rfl _ _ 128 rfl E.w0.heap.size 85 i0 .nilIface 1 16 Try.underlying128 hi hz0 hz1 hz2 rfl (by decide) _ (l0.length + q) ((l0 ++ (List.range q).map fun i => (1, i + 1, 0)).map E.Y.val) rfl (hown.alloc _) ⟨wr.heap.size, 0, none⟩ 1 1 [.iface 82 (.slice (some ⟨E.Y.sb (q + 1), 0, none⟩) (E.Y.m (q + 1)) (E.Y.m (q + 1)))] rfl rfl ?_ ?_ (by decide) ?_ ?_ ?_ (wr.heap.size + 1) ?_ ?_)
            · exact news_last _ _ rfl _ _
            · exact one_iface _ _
            · unfold maxLen; omega
            · omega
            · simp; omega
            · simp
            intro g1 cap1 w1 hown1 hgrow _ _
            have hR := (hP.alloc _).push (k := l0.length + q) (it := (1, q + 1, 0)) (x := .iface 82 (.slice (some ⟨E.Y.sb (q + 1), 0, none⟩) (E.Y.m (q + 1)) (E.Y.m (q + 1)))) (hS.alloc _) rfl (by simp) (by simpa using hown1) hgrow
            clear hown1 hgrow hP hS hown hc0
            go_wp2
            go_roundg (E.Y.N - (q + 1))
            case measure => have := HQ.out; omega
            case rel => exact ⟨g1, cap1, q + 1, by omega, rfl, by go_num, by rw [Nat.add_assoc], by rw [List.range_succ, List.map_append, ← List.append_assoc]; exact hR.1, hR.2⟩
          · have : q = E.Y.N := by omega
            subst this
            clear f1 f2 hi hz0 hz1 hz2
            go_wp2
            have e1 := HG.out
            have e2 := HW.out
            have e3 := wts_append E.Y l0 ((List.range E.Y.N).map fun i => (1, i + 1, 0))
            go_roundg (E.Y.wts (l0 ++ (List.range E.Y.N).map fun i => (1, i + 1, 0)))
            case measure => omega
            case rel => exact DropRel.push (it := (2, 0, 0)) (by simp) hP hS HT.out HO.out (by intro it' h'; obtain ⟨j, hj, rfl⟩ := List.mem_map.1 h'; exact .inr (.inl ⟨j + 1, by simp at hj; omega, rfl⟩)) (todo_group E.Y) (by omega)
      · have hcell' : wr.cell? ⟨g, l0.length, none⟩ = some (.iface 83 (.pointer (some ⟨E.Y.ub i j, 0, none⟩))) := hcell
        clear hcell hP hok hst hw hi hz0 hz1 hz2
        have f1 := as83_82
        have f2 := as83_80
        have f3 := as83_94
        have f4 := as83_83
        have hlk := hS.mem.lkn i hi' j hj
        have hu := hS.mem.ucell hi' hj
        have hl := hS.lnk.c2
        have l1 : (0 : Int) ≤ (E.Y.lk i j : Int) := by omega
        have l2 : (E.Y.lk i j : Int) < (E.n : Int) := by omega
        go_wp2
        go_region_held3 (fun w' => w'.cell? ⟨E.Y.ub i j, 1, none⟩ = some (.int .i64 (E.Y.lk i j)) ∧ w'.cell? ⟨E.lb, 2, none⟩ = some (.slice (some ⟨E.ub, 0, none⟩) E.n E.n)) (go_keep)
          ((go_at_call 37; refine (open_gates (hS.drew.gates) (hS.drew.rch) hlk).mono ?_; rintro e w' ⟨rfl, hg', hk'⟩; have hS2 := hS.drew.open hg' hk'; have hP2 := (show Pend E wr.drew g cap l0 from hP').open hS.drew.gates hk'; have q1 := hS2.mem.ucell hi' hj; have q2 := hS2.lnk.c2))
        go_wp2
        have e1 := HG.out
        have e2 : E.Y.wt (3, i, j) = 1 := rfl
        go_roundg (E.Y.wts l0)
        case measure => omega
        case rel =>
          refine ⟨g, cap, l0.length, l0, _, rfl, rfl, hP2, hS2, ?_, HO.out, rfl, by omega⟩
          rw [← HT.out, todo_append, todo_one]
          rfl
end Go.Proofs.Qxb6614780a
