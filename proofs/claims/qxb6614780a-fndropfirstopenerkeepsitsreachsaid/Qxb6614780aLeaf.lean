import Derived.Test.Qxb6614780aProg
import Derived.WalkKit
import Derived.WalkSpells
import Derived.WalkLawsBesides
import Derived.Conc.EventLaws
namespace Go.Proofs.Qxb6614780a
open Go.RowKit

theorem run_call_swap {P : Program} {f : FuncId} {fn : Func} (hf : P.funcs[f]? = some fn) (hname : (fn.name == "runtime.NumGoroutine") = false) (hb : fn.body.isNone = true) (hn : Extern.findNext fn = none) (k : IntKind)
    (he : Extern.find fn = some (Extern.Atomic.swapT (.int k))) {a : Addr} {x y : Int} {w : World} (hc : w.cell? a = some (.int k x)) (hz : w.frozen? a = false) :
    (callFunc f #[.pointer (some a), .int k y]).run P w = .ok (.value (.int k x)) (w.setCell a (.int k y)) := by
  rw [run_callFunc_extern hf hname hb hn he]
  change (Sem.run P (do
    let a' ← asAddr (.pointer (some a))
    let old ← Extern.Atomic.read (.int k) a'
    store a' (.int k y) .atomic
    pure old) w).andThen _ = _
  simp [Extern.Atomic.read, asAddr, hc, hz, run_store P w a (.int k y) .atomic rfl, Result.andThen]

theorem swap_call {a : Addr} {x y : Int} {w : World} (hc : w.cell? a = some (.int .u32 x)) (hz : w.frozen? a = false) :
    (callFunc 67 #[.pointer (some a), .int .u32 y]).run Try.prog w = .ok (.value (.int .u32 x)) (w.setCell a (.int .u32 y)) :=
  run_call_swap (P := Try.prog) Try.func67 (by kernel_rfl) (by kernel_rfl) (by kernel_rfl) .u32 (by kernel_rfl) hc hz

theorem load_call {a : Addr} {x : Int} {w : World} (hc : w.cell? a = some (.int .u32 x)) :
    (callFunc 38 #[.pointer (some a)]).run Try.prog w = .ok (.value (.int .u32 x)) w :=
  run_call_load (P := Try.prog) Try.func38 (by kernel_rfl) (by kernel_rfl) (by kernel_rfl) .u32 (by kernel_rfl) hc

/-- b32 -/
theorem b32_true (w : World) : Calls Try.prog 68 #[.bool true] w fun e w' => e = .returned (.int .u32 1) ∧ w' = w := by
  go_enter Try.func68, Try.ntmps68
  go_wp2
  go_ret
  exact ⟨rfl, rfl⟩

/-- (*atomic.Bool).Load -/
theorem load_any (b off : Nat) (x : Int) (w : World) (h0 : w.cell? ⟨b, off, none⟩ = some (.int .u32 x)) :
    Calls Try.prog 30 #[.pointer (some ⟨b, off, none⟩)] w fun e w' => e = .returned (.bool (x != 0)) ∧ w' = w := by
  have hl := load_call (a := ⟨b, off, none⟩) (w := w) h0
  go_enter Try.func30, Try.ntmps30
  go_wp2
  go_ret
  exact ⟨rfl, rfl⟩

/-- (*atomic.Bool).Swap(true) -/
theorem swap_any (b off : Nat) (x : Int) (w : World) (h0 : w.cell? ⟨b, off, none⟩ = some (.int .u32 x)) (f0 : w.frozen? ⟨b, off, none⟩ = false) :
    Calls Try.prog 49 #[.pointer (some ⟨b, off, none⟩), .bool true] w fun e w' => e = .returned (.bool (x != 0)) ∧ w' = (w.setCell ⟨b, off, none⟩ (.int .u32 1)).drew := by
  have hl := swap_call (a := ⟨b, off, none⟩) (y := 1) (w := w.drew) h0 f0
  go_enter Try.func49, Try.ntmps49
  go_wp2
  go_region_calls
  all_goals go_wp2
  all_goals go_ret
  all_goals exact ⟨rfl, rfl⟩

end Go.Proofs.Qxb6614780a
