/-
  errors.As at the target **RefusedError by its contracts (as_nil, as_hit): the kit's worked text ToyasAs turned to this program's numbers: types 37 (*RefusedError), 39 (**RefusedError), 27 (error), 75 (rtype), 59 (reflectlite.Type), 56 (reflectlite.Value).
-/
import Derived.Test.Qxb6614869aFmtRows
import Derived.WalkKit
import Derived.LaidEql
import Derived.Stop.Asserts
import Derived.RowKitTokens
namespace Go.Proofs.Qxb6614869aFmt
open Go.RowKit Go.Extern.Stop Go.Stop Go.Extern

/-- errors.As(nil, target). -/
theorem as_nil (t : Value) (w : World) :
    Calls Tryf.prog 8 #[.nilIface, t] w fun e w' => e = .returned (.bool false) ∧ w' = w := by
  go_enter Tryf.func8, Tryf.ntmps8
  go_wp2
  go_ret
  exact ⟨rfl, rfl⟩

/-! ### CLOSED FACTS ON THE MODEL's ENTRIES FOR internal/reflectlite, at this program's types: 25: *p.E · 27: **p.E · 23: error · 45: reflectlite's rtype · 1: how many package-level variables the dump has -/
theorem Tryf.valueOf27 (t : Addr) (w : World) : (ReflectliteValue.unpack (.iface 39 (.pointer (some t)))).run Tryf.prog w
    = .ok (.agg #[.pointer (some ⟨2, 39, none⟩), .pointer (some ⟨w.heap.size, 0, none⟩), .int .u64 150]) (w.alloc (.cells #[.pointer (some t)] 39)) := by kernel_rfl
theorem Tryf.type27 (a : Addr) (w : World) : (ReflectliteValue.methodAny (ReflectliteValue.valueError "reflectlite.Value.Type" 0) (fun t _ _ _ => ReflectliteType.toType t) #[.agg #[.pointer (some ⟨2, 39, none⟩), .pointer (some a), .int .u64 150]]).run Tryf.prog w
    = .ok (.iface 75 (.agg #[.pointer (some ⟨2, 39, none⟩)])) w := by kernel_rfl
theorem Tryf.methodKind (h : Value) (w : World) : (Go.method 221 75 (.agg #[h]) "Kind").run Tryf.prog w = .ok (39, h) w := by kernel_rfl
theorem Tryf.kind27 (w : World) : ((ReflectliteType.abiMethod fun t => (fun a : Nat => Value.int IntKind.u8 (a : Int)) <$> Rtype.kind t) #[.pointer (some ⟨2, 39, none⟩)]).run Tryf.prog w = .ok (.int .u8 22) w := by kernel_rfl
theorem Tryf.kind25 (w : World) : ((ReflectliteType.abiMethod fun t => (fun a : Nat => Value.int IntKind.u8 (a : Int)) <$> Rtype.kind t) #[.pointer (some ⟨2, 37, none⟩)]).run Tryf.prog w = .ok (.int .u8 22) w := by kernel_rfl

/-! ### THE ENTRIES THAT READ OR WRITE MEMORY: laws with a premise on the cell (after Derived/Lib/ReflectliteSlice.lean's manner: each unfolding a lemma of its own, by rfl) -/
theorem Tryf.parts27 (a : Addr) (w : World) : (ReflectliteValue.parts (.agg #[.pointer (some ⟨2, 39, none⟩), .pointer (some a), .int .u64 150])).run Tryf.prog w = .ok (some (39, a, 150)) w := by kernel_rfl
/-- (Value).IsNil at the Value of a **p.E that is not nil. -/
theorem Tryf.isNil27 (a p : Addr) (W : World) (ha : W.cell? a = some (.pointer (some p))) :
    (ReflectliteValue.method (ReflectliteValue.valueError "reflectlite.Value.IsNil" 0) ReflectliteValue.isNil #[.agg #[.pointer (some ⟨2, 39, none⟩), .pointer (some a), .int .u64 150]]).run Tryf.prog W = .ok (.bool false) W := by
  refine Eq.trans (congrArg (fun z => Sem.run Tryf.prog z W) (rfl : _ = (ReflectliteValue.parts (.agg #[.pointer (some ⟨2, 39, none⟩), .pointer (some a), .int .u64 150]) >>= _))) ?_
  simp only [Sem.run_bind, Tryf.parts27, Result.andThen]
  simp [ReflectliteValue.isNil, loadVar, isAgg, underlying, Tryf.underlying39, ha, Result.andThen]

theorem Tryf.methodElem (h : Value) (w : World) : (Go.method 221 75 (.agg #[h]) "Elem").run Tryf.prog w = .ok (53, .agg #[h]) w := by kernel_rfl
theorem Tryf.methodImplements (h : Value) (w : World) : (Go.method 221 75 (.agg #[h]) "Implements").run Tryf.prog w = .ok (54, .agg #[h]) w := by kernel_rfl
theorem Tryf.methodAssignableTo (h : Value) (w : World) : (Go.method 221 75 (.agg #[h]) "AssignableTo").run Tryf.prog w = .ok (51, .agg #[h]) w := by kernel_rfl
theorem Tryf.elem27 (w : World) : (ReflectliteType.method ReflectliteType.elem #[.agg #[.pointer (some ⟨2, 39, none⟩)]]).run Tryf.prog w = .ok (.iface 75 (.agg #[.pointer (some ⟨2, 37, none⟩)])) w := by kernel_rfl
theorem Tryf.implements25 (w : World) : (ReflectliteType.relation "Implements" ReflectliteType.implements_ #[.agg #[.pointer (some ⟨2, 37, none⟩)], .iface 75 (.agg #[.pointer (some ⟨2, 27, none⟩)])]).run Tryf.prog w = .ok (.bool true) w := by kernel_rfl
theorem Tryf.typeOf25 (v : Value) (w : World) : (ReflectliteType.typeOf #[.iface 37 v]).run Tryf.prog w = .ok (.iface 75 (.agg #[.pointer (some ⟨2, 37, none⟩)])) w := by kernel_rfl
theorem Tryf.assignable25 (w : World) : (ReflectliteType.relation "AssignableTo" ReflectliteType.assignableTo #[.agg #[.pointer (some ⟨2, 37, none⟩)], .iface 75 (.agg #[.pointer (some ⟨2, 37, none⟩)])]).run Tryf.prog w = .ok (.bool true) w := by kernel_rfl
theorem Tryf.valueOf25 (e : Addr) (w : World) : (ReflectliteValue.unpack (.iface 37 (.pointer (some e)))).run Tryf.prog w
    = .ok (.agg #[.pointer (some ⟨2, 37, none⟩), .pointer (some ⟨w.heap.size, 0, none⟩), .int .u64 150]) (w.alloc (.cells #[.pointer (some e)] 37)) := by kernel_rfl

theorem Tryf.elemOf27 (w : World) : (Rtype.elem? 39).run Tryf.prog w = .ok (some 37) w := by kernel_rfl
theorem Tryf.mk25 (p : Addr) (w : World) : (ReflectliteValue.mk 37 p ReflectliteValue.flagAddr).run Tryf.prog w = .ok (.agg #[.pointer (some ⟨2, 37, none⟩), .pointer (some p), .int .u64 406]) w := by kernel_rfl
/-- (Value).Elem at the Value of a **p.E that is not nil: the Value of the *p.E variable that it points to, addressable. -/
theorem Tryf.elemV27 (a p : Addr) (W : World) (ha : W.cell? a = some (.pointer (some p))) :
    (ReflectliteValue.method (ReflectliteValue.valueError "reflectlite.Value.Elem" 0) ReflectliteValue.elem #[.agg #[.pointer (some ⟨2, 39, none⟩), .pointer (some a), .int .u64 150]]).run Tryf.prog W
      = .ok (.agg #[.pointer (some ⟨2, 37, none⟩), .pointer (some p), .int .u64 406]) W := by
  refine Eq.trans (congrArg (fun z => Sem.run Tryf.prog z W) (rfl : _ = (ReflectliteValue.parts (.agg #[.pointer (some ⟨2, 39, none⟩), .pointer (some a), .int .u64 150]) >>= _))) ?_
  simp only [Sem.run_bind, Tryf.parts27, Result.andThen]
  simp [ReflectliteValue.elem, loadVar, isAgg, underlying, Tryf.underlying39, ha, Result.andThen, Tryf.elemOf27, Tryf.mk25]
theorem Tryf.parts25a (a : Addr) (w : World) : (ReflectliteValue.parts (.agg #[.pointer (some ⟨2, 37, none⟩), .pointer (some a), .int .u64 406])).run Tryf.prog w = .ok (some (37, a, 406)) w := by kernel_rfl
theorem Tryf.parts25 (a : Addr) (w : World) : (ReflectliteValue.parts (.agg #[.pointer (some ⟨2, 37, none⟩), .pointer (some a), .int .u64 150])).run Tryf.prog w = .ok (some (37, a, 150)) w := by kernel_rfl
theorem Tryf.direct25 (w : World) : (Rtype.directlyAssignable 37 37).run Tryf.prog w = .ok true w := by kernel_rfl
theorem Tryf.size25 (w : World) : (sizeOf 37).run Tryf.prog w = .ok 1 w := by kernel_rfl
/-- (Value).Set: the *p.E variable at 'ta' gets what the Value's own variable 'b' holds. -/
theorem Tryf.set25 (ta b e : Addr) (old : Value) (W : World) (hb : W.cell? b = some (.pointer (some e))) (ht : W.cell? ta = some old) (hf : W.frozen? ta = false) :
    (ReflectliteValue.set #[.agg #[.pointer (some ⟨2, 37, none⟩), .pointer (some ta), .int .u64 406], .agg #[.pointer (some ⟨2, 37, none⟩), .pointer (some b), .int .u64 150]]).run Tryf.prog W
      = .ok (.tuple #[]) (W.setCell ta (.pointer (some e))) := by
  refine Eq.trans (congrArg (fun z => Sem.run Tryf.prog z W) (rfl : _ = (ReflectliteValue.parts (.agg #[.pointer (some ⟨2, 37, none⟩), .pointer (some ta), .int .u64 406]) >>= fun p => ReflectliteValue.parts (.agg #[.pointer (some ⟨2, 37, none⟩), .pointer (some b), .int .u64 150]) >>= fun q => _))) ?_
  simp only [Sem.run_bind, Tryf.parts25a, Tryf.parts25, Result.andThen]
  simp [ReflectliteValue.flagAddr, loadVar, isAgg, underlying, Tryf.underlying37, hb, Result.andThen, Tryf.direct25, storeVar, Value.cells, storeCells, Addr.add]
  rw [run_store Tryf.prog W ta _ _ (by rfl)]
  simp [ht, hf]

set_option maxRecDepth 100000 in
set_option maxHeartbeats 4000000 in
theorem as_hit (e t : Addr) (old : Value) (w : World) (hg : w.cell? ⟨0, 0, none⟩ = some (.iface 75 (.agg #[.pointer (some ⟨2, 27, none⟩)]))) (ht0 : w.cell? t = some old) (hf0 : w.frozen? t = false) :
    Calls Tryf.prog 8 #[.iface 37 (.pointer (some e)), .iface 39 (.pointer (some t))] w fun ev w' => ev = .returned (.bool true) ∧ w' = ((((w.alloc (.cells #[.pointer (some t)] 39)).alloc (.cells #[.pointer (some ⟨2, 39, none⟩), .pointer (some ⟨w.heap.size, 0, none⟩), .int .u64 150] 56)).alloc (.cells #[.pointer (some ⟨2, 39, none⟩), .pointer (some ⟨w.heap.size, 0, none⟩), .int .u64 150] 56)).alloc (.cells #[.pointer (some e)] 37)).setCell t (.pointer (some e)) := by
  have h6 := @run_callFunc_extern Tryf.prog 13 _ (fun args => ReflectliteValue.unpack (args.getD 0 (.tuple #[]))) Tryf.func13 (by kernel_rfl) (by kernel_rfl) (by kernel_rfl) (by kernel_rfl)
  have h7 := @run_callFunc_extern Tryf.prog 14 _ (ReflectliteValue.methodAny (ReflectliteValue.valueError "reflectlite.Value.Type" 0) (fun t _ _ _ => ReflectliteType.toType t)) Tryf.func14 (by kernel_rfl) (by kernel_rfl) (by kernel_rfl) (by kernel_rfl)
  have h8 := @run_callFunc_extern Tryf.prog 15 _ (ReflectliteValue.method (ReflectliteValue.valueError "reflectlite.Value.IsNil" 0) ReflectliteValue.isNil) Tryf.func15 (by kernel_rfl) (by kernel_rfl) (by kernel_rfl) (by kernel_rfl)
  have h27 := @run_callFunc_extern Tryf.prog 39 _ (ReflectliteType.abiMethod fun t => do pure (.int .u8 (← Rtype.kind t))) Tryf.func39 (by kernel_rfl) (by kernel_rfl) (by kernel_rfl) (by kernel_rfl)
  have h37 := @run_callFunc_extern Tryf.prog 53 _ (ReflectliteType.method ReflectliteType.elem) Tryf.func53 (by kernel_rfl) (by kernel_rfl) (by kernel_rfl) (by kernel_rfl)
  have h38 := @run_callFunc_extern Tryf.prog 54 _ (ReflectliteType.relation "Implements" ReflectliteType.implements_) Tryf.func54 (by kernel_rfl) (by kernel_rfl) (by kernel_rfl) (by kernel_rfl)
  have h10 := @run_callFunc_extern Tryf.prog 21 _ ReflectliteType.typeOf Tryf.func21 (by kernel_rfl) (by kernel_rfl) (by kernel_rfl) (by kernel_rfl)
  have h35 := @run_callFunc_extern Tryf.prog 51 _ (ReflectliteType.relation "AssignableTo" ReflectliteType.assignableTo) Tryf.func51 (by kernel_rfl) (by kernel_rfl) (by kernel_rfl) (by kernel_rfl)
  have h11 := @run_callFunc_extern Tryf.prog 22 _ (ReflectliteValue.method (ReflectliteValue.valueError "reflectlite.Value.Elem" 0) ReflectliteValue.elem) Tryf.func22 (by kernel_rfl) (by kernel_rfl) (by kernel_rfl) (by kernel_rfl)
  have h12 := @run_callFunc_extern Tryf.prog 23 _ ReflectliteValue.set Tryf.func23 (by kernel_rfl) (by kernel_rfl) (by kernel_rfl) (by kernel_rfl)
  have tO := Tryf.typeOf25
  have mA := Tryf.methodAssignableTo
  have a25 := Tryf.assignable25
  have v25 := Tryf.valueOf25
  have f6 := Tryf.valueOf27
  have f7 := Tryf.type27
  have mK := Tryf.methodKind
  have mE := Tryf.methodElem
  have mI := Tryf.methodImplements
  have k27 := Tryf.kind27
  have k25 := Tryf.kind25
  have e27 := Tryf.elem27
  have i25 := Tryf.implements25
  have n8 := Tryf.isNil27 ⟨w.heap.size, 0, none⟩ t ((w.alloc (.cells #[.pointer (some t)] 39)).alloc (.cells #[.pointer (some ⟨2, 39, none⟩), .pointer (some ⟨w.heap.size, 0, none⟩), .int .u64 150] 56)) (by simp)
  have hlt : 0 < w.heap.size := by
    rcases Nat.eq_zero_or_pos w.heap.size with h0 | h
    · simp [World.cell?, h0] at hg
    · exact h
  have hg2 : ((w.alloc (.cells #[.pointer (some t)] 39)).alloc (.cells #[.pointer (some ⟨2, 39, none⟩), .pointer (some ⟨w.heap.size, 0, none⟩), .int .u64 150] 56)).cell? ⟨0, 0, none⟩ = some (.iface 75 (.agg #[.pointer (some ⟨2, 27, none⟩)])) := by
    rw [World.cell?_alloc_lt _ _ ⟨0, 0, none⟩ (by simp), World.cell?_alloc_lt _ _ ⟨0, 0, none⟩ hlt]; exact hg
  have htl : t.block < w.heap.size := by
    rcases Nat.lt_or_ge t.block w.heap.size with h | h
    · exact h
    · simp [World.cell?, Array.getElem?_eq_none h] at ht0
  have el := Tryf.elemV27 ⟨w.heap.size, 0, none⟩ t (((w.alloc (.cells #[.pointer (some t)] 39)).alloc (.cells #[.pointer (some ⟨2, 39, none⟩), .pointer (some ⟨w.heap.size, 0, none⟩), .int .u64 150] 56)).alloc (.cells #[.pointer (some ⟨2, 39, none⟩), .pointer (some ⟨w.heap.size, 0, none⟩), .int .u64 150] 56)) (by rw [World.cell?_alloc_lt _ _ ⟨w.heap.size, 0, none⟩ (by simp; omega)]; simp)
  have st := Tryf.set25 t ⟨w.heap.size + 1 + 1 + 1, 0, none⟩ e old ((((w.alloc (.cells #[.pointer (some t)] 39)).alloc (.cells #[.pointer (some ⟨2, 39, none⟩), .pointer (some ⟨w.heap.size, 0, none⟩), .int .u64 150] 56)).alloc (.cells #[.pointer (some ⟨2, 39, none⟩), .pointer (some ⟨w.heap.size, 0, none⟩), .int .u64 150] 56)).alloc (.cells #[.pointer (some e)] 37))
    (by rw [World.cell?_alloc_at _ _ _ _ (by simp)]; rfl)
    (by rw [World.cell?_alloc_lt _ _ t (by simp; omega), World.cell?_alloc_lt _ _ t (by simp; omega), World.cell?_alloc_lt _ _ t (by simp; omega), World.cell?_alloc_lt _ _ t htl]; exact ht0)
    (by rw [World.frozen?_alloc_old _ _ t (by simp; omega), World.frozen?_alloc_old _ _ t (by simp; omega), World.frozen?_alloc_old _ _ t (by simp; omega), World.frozen?_alloc_old _ _ t (Nat.ne_of_lt htl)]; exact hf0)
  go_enter Tryf.func8, Tryf.ntmps8
  go_wp2
  refine wp_loop_rounds 1 ?_
  rw [rounds_succ]
  go_wp2
  go_ret
  exact ⟨rfl, rfl⟩
end Go.Proofs.Qxb6614869aFmt
