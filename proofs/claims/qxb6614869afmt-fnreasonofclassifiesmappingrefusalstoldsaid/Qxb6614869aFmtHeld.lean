/-
  Steps in a region that draws its order (over Derived/Deep/RegionHeld).
-/
import Derived.Test.Qxb6614869aFmtRows
import Derived.Deep.RegionHeld
import Derived.WalkKit
namespace Go.Proofs.Qxb6614869aFmt
open Go.RowKit
set_option linter.unusedSimpArgs false

section
variable {P : Program} {l : List Oper} {Q : Exit → Act → World → Prop} {S : World → Prop}
theorem take_val {i : Nat} {oi : Oper} {v : Value} {fuel : Nat} {listed : Array Bool} {a : Act} {w : World} (hi : l[i]? = some oi)
    (hs : Region.noSelect l.toArray = true) (hf : Region.free .any l.toArray listed i = true) (hr : (Region.ready .any l.toArray listed).contains i = true)
    (hQ : ∀ c a w, Q (.panic c) (a.put oi.dst v) w → Q (.panic c) a w) (hw : Region.wanted oi (yielded l.toArray a.tmps) = true) (h : ∀ w, S w → (execOp a.eval oi).run P w = .ok (.value v) w) (hS : S w)
    (hk : wpAnyH P .any l.toArray Q S fuel (listed.setIfInBounds i true) (a.put oi.dst v) w) : wpAnyH P .any l.toArray Q S (fuel + 1) listed a w :=
  wpAnyH_take (by simpa using hi) hs hf hr hQ (.inl ⟨hw, h⟩) hS hk
theorem take_load {i : Nat} {oi : Oper} {fuel : Nat} {listed : Array Bool} {a : Act} {w : World} (hi : l[i]? = some oi)
    (hs : Region.noSelect l.toArray = true) (hf : Region.free .any l.toArray listed i = true) (hr : (Region.ready .any l.toArray listed).contains i = true)
    (ty : TypeId) (x : Operand) (ho : oi.op = .load ty x) (b off : Nat) (hx : a.eval x = .pointer (some ⟨b, off, none⟩)) (cs : Array Value) (d : TypeDesc)
    (hQ : ∀ c a w, Q (.panic c) (a.put oi.dst (.agg cs)) w → Q (.panic c) a w) (hw : Region.wanted oi (yielded l.toArray a.tmps) = true)
    (hc : ∀ w, S w → w.rangeAt b off cs.toList) (hu : P.underlying ty = some d) (hd : d.isRow = true) (hz : (P.info? ty).map (·.size) = some cs.size) (hS : S w)
    (hk : wpAnyH P .any l.toArray Q S fuel (listed.setIfInBounds i true) (a.put oi.dst (.agg cs)) w) : wpAnyH P .any l.toArray Q S (fuel + 1) listed a w :=
  take_val hi hs hf hr hQ hw (fun w hC => by
    unfold execOp
    simp only [ho, hx, Sem.run_bind, run_loadAt_mid w b off ty cs.toList d (hc w hC) hu hd (by simpa using hz), Result.andThen_ok, Sem.run_pure]) hS hk
theorem exec_store {o : Oper} {a : Act} {w w' : World} (ty : TypeId) (x y : Operand) (ho : o.op = .store ty x y) (p v : Value) (hx : a.eval x = p) (hy : a.eval y = v) (h : (Instr.storeAt ty p v).run P w = .ok () w') : (execOp a.eval o).run P w = .ok .skip w' := by
  unfold execOp
  simp only [ho, hx, hy, Sem.run_bind, h, Result.andThen_ok, Sem.run_pure]
theorem one_call {i : Nat} {oi : Oper} {fuel : Nat} {listed : Array Bool} {a : Act} {w : World} (hi : l[i]? = some oi) (hr : Region.ready .any l.toArray listed = [i]) (hw : Region.wanted oi (yielded l.toArray a.tmps) = true)
    (f : FuncId) (args : Array Value) (h : (execOp a.eval oi).run P w = .ok (.enter f args) w)
    (hc : Calls P f args w fun e w2 => ∃ v, e = .returned v ∧ S w2 ∧ wpAnyH P .any l.toArray Q S fuel (listed.setIfInBounds i true) (a.put oi.dst v) w2) : wpAnyH P .any l.toArray Q S (fuel + 1) listed a w := by
  refine wpAnyH_ready hr (by simp) (AllReadyH.cons (by simpa using hi) (fun K hK => ?_) AllReadyH.nil)
  rw [if_pos hw]
  unfold Oper.wp
  rw [h]
  refine hc.mono ?_
  rintro e w2 ⟨v, rfl, h1, h2⟩
  exact hK.out _ _ h1 fun _ => h2
theorem one_val {i : Nat} {oi : Oper} {fuel : Nat} {listed : Array Bool} {a : Act} {w w2 : World} {v : Value} (hi : l[i]? = some oi) (hr : Region.ready .any l.toArray listed = [i]) (hw : Region.wanted oi (yielded l.toArray a.tmps) = true)
    (h : (execOp a.eval oi).run P w = .ok (.value v) w2) (hS : S w2) (hk : wpAnyH P .any l.toArray Q S fuel (listed.setIfInBounds i true) (a.put oi.dst v) w2) : wpAnyH P .any l.toArray Q S (fuel + 1) listed a w := by
  refine wpAnyH_ready hr (by simp) (AllReadyH.cons (by simpa using hi) (fun K hK => ?_) AllReadyH.nil)
  rw [if_pos hw]
  unfold Oper.wp
  rw [h]
  exact hK.out _ _ hS fun _ => hk
theorem one_skip {i : Nat} {oi : Oper} {fuel : Nat} {listed : Array Bool} {a : Act} {w w2 : World} (hi : l[i]? = some oi) (hr : Region.ready .any l.toArray listed = [i]) (hw : Region.wanted oi (yielded l.toArray a.tmps) = true)
    (h : (execOp a.eval oi).run P w = .ok .skip w2) (hS : S w2) (hk : wpAnyH P .any l.toArray Q S fuel (listed.setIfInBounds i true) (a.put oi.dst undef) w2) : wpAnyH P .any l.toArray Q S (fuel + 1) listed a w := by
  refine wpAnyH_ready hr (by simp) (AllReadyH.cons (by simpa using hi) (fun K hK => ?_) AllReadyH.nil)
  rw [if_pos hw]
  unfold Oper.wp
  rw [h]
  exact hK.out _ _ hS fun _ => hk
end


theorem wpList_store {P : Program} {ops : Array Oper} {rest : List Oper} {o : Oper} {a : Act} {Q : Exit → Act → World → Prop} {w w' : World} (hgd : o.guard = none) (ty : TypeId) (x y : Operand) (ho : o.op = .store ty x y) (p v : Value) (hx : a.eval x = p) (hy : a.eval y = v)
    (h : (Instr.storeAt ty p v).run P w = .ok () w') (hk : wpList P ops Q rest (a.put o.dst undef) w') : wpList P ops Q (o :: rest) a w :=
  wpList_plain hgd fun K hK => by
    unfold Oper.wp
    rw [exec_store ty x y ho p v hx hy h]
    exact hK _ _ hk
end Go.Proofs.Qxb6614869aFmt
