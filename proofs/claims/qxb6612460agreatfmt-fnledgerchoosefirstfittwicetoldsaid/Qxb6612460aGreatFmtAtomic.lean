import Derived.Test.Qxb6612460aGreatFmtBase
import Derived.Laws.LoneSync
import Derived.Lib.Builder
namespace Go.Proofs.Qxb6612460aGreatFmt
open Go.RowKit

section
variable {P : Program} {f : FuncId} {fn : Func}
theorem run_call_load_ptr (hf : P.funcs[f]? = some fn) (hname : (fn.name == "runtime.NumGoroutine") = false) (hb : fn.body.isNone = true) (hn : Extern.findNext fn = none)
    (he : Extern.find fn = some (Extern.Atomic.loadT .ptr)) {a : Addr} {x : Option Addr} {w : World} (hc : w.cell? a = some (.pointer x)) :
    (callFunc f #[.pointer (some a)]).run P w = .ok (.value (.pointer x)) w := by
  rw [run_callFunc_extern hf hname hb hn he]
  change (Sem.run P (do Extern.Atomic.read .ptr (← asAddr (.pointer (some a)))) w).andThen _ = _
  simp [Extern.Atomic.read, asAddr, hc, Result.andThen]
theorem run_call_store_ptr (hf : P.funcs[f]? = some fn) (hname : (fn.name == "runtime.NumGoroutine") = false) (hb : fn.body.isNone = true) (hn : Extern.findNext fn = none)
    (he : Extern.find fn = some Extern.Atomic.storeT) {a : Addr} {y : Option Addr} {u : Value} {w : World} (hc : w.cell? a = some u) (hz : w.frozen? a = false) :
    (callFunc f #[.pointer (some a), .pointer y]).run P w = .ok (.value (.tuple #[])) (w.setCell a (.pointer y)) := by
  rw [run_callFunc_extern hf hname hb hn he]
  change (Sem.run P (do
    store (← asAddr (.pointer (some a))) (.pointer y) .atomic
    pure Extern.Atomic.none_) w).andThen _ = _
  simp [asAddr, hc, hz, run_store P w a (.pointer y) .atomic rfl, Result.andThen, Extern.Atomic.none_]
end

theorem Tryz.info58 : (Tryz.prog.info? 58).map (fun i => i.size) = some 4 := by kernel_rfl
theorem conv_out (s : Nat) (w : World) (cs : Array Value) (hs : w.heap[s]? = some (.cells cs 58 (0, 0))) (hcs : cs.size = 4) :
    (convert 50 83 (.pointer (some ⟨s, 0, none⟩))).run Tryz.prog w = .ok (.pointer (some ⟨s, 0, none⟩)) w := by
  obtain ⟨j, hj, hj2⟩ := Option.map_eq_some_iff.1 Tryz.info58
  have hsh : w.shape? s = some (58, 4) := by simp [World.shape?, hs, hcs]
  simp [convert, run_underlying Tryz.underlying50, run_underlying Tryz.underlying83]
  change Sem.run Tryz.prog (underlying 50 >>= _) w = _
  simp [run_underlying Tryz.underlying50, run_underlying Tryz.underlying83, Conv.seenAt, viewAt, cellsIn, hsh, sizeOf, typeInfo, hj, hj2]
theorem conv_in (s : Nat) (w : World) (cs : Array Value) (hs : w.heap[s]? = some (.cells cs 58 (0, 0))) (hcs : cs.size = 4) :
    (convert 83 50 (.pointer (some ⟨s, 0, none⟩))).run Tryz.prog w = .ok (.pointer (some ⟨s, 0, none⟩)) w := by
  obtain ⟨j, hj, hj2⟩ := Option.map_eq_some_iff.1 Tryz.info58
  have hsh : w.shape? s = some (58, 4) := by simp [World.shape?, hs, hcs]
  have hlies : liesAt Tryz.prog Tryz.prog.depth 58 (4 / Tryz.prog.cellsOf 58) 0 58 1 = true := by kernel_rfl
  simp [convert, run_underlying Tryz.underlying50, run_underlying Tryz.underlying83]
  change Sem.run Tryz.prog (underlying 83 >>= _) w = _
  simp [run_underlying Tryz.underlying50, run_underlying Tryz.underlying83, Conv.seenAt, viewAt, hsh, variablesAt, hlies, sizeOf, typeInfo, hj, hj2]

set_option maxRecDepth 100000 in
theorem loadShelf (l o s : Nat) (w : World) (cs : Array Value) (hc : w.cell? ⟨l, o, none⟩ = some (.pointer (some ⟨s, 0, none⟩))) (hs : w.heap[s]? = some (.cells cs 58 (0, 0))) (hcs : cs.size = 4) :
    Calls Tryz.prog 23 #[.pointer (some ⟨l, o, none⟩)] w fun e w' => e = .returned (.pointer (some ⟨s, 0, none⟩)) ∧ w = w' := by
  have hl := run_call_load_ptr (P := Tryz.prog) Tryz.func31 (by kernel_rfl) (by kernel_rfl) (by kernel_rfl) (by kernel_rfl) hc
  have hv := conv_in s w cs hs hcs
  go_enter Tryz.func23, Tryz.ntmps23
  go_wp2_with fail
  go_ret
  exact ⟨rfl, rfl⟩

set_option maxRecDepth 100000 in
theorem storeShelf (l o s : Nat) (w : World) (cs : Array Value) (u : Value) (hc : w.cell? ⟨l, o, none⟩ = some u) (hz : w.frozen? ⟨l, o, none⟩ = false) (hs : w.heap[s]? = some (.cells cs 58 (0, 0))) (hcs : cs.size = 4) :
    Calls Tryz.prog 22 #[.pointer (some ⟨l, o, none⟩), .pointer (some ⟨s, 0, none⟩)] w fun e w' => e = .returned (.tuple #[]) ∧ w.setCell ⟨l, o, none⟩ (.pointer (some ⟨s, 0, none⟩)) = w' := by
  have hl := run_call_store_ptr (P := Tryz.prog) Tryz.func30 (by kernel_rfl) (by kernel_rfl) (by kernel_rfl) (by kernel_rfl) (y := some ⟨s, 0, none⟩) hc hz
  have hv := conv_out s w cs hs hcs
  go_enter Tryz.func22, Tryz.ntmps22
  go_wp2_with fail
  refine bodyPost_end (results_none rfl _ _ _) rfl ⟨rfl, rfl⟩

end Go.Proofs.Qxb6612460aGreatFmt
