import Derived.Test.Qxb6612460aGreatFmtNewP
namespace Go.Proofs.Qxb6612460aGreatFmt
open Go.RowKit Go.Sort
attribute [local go_sem] Option.isNone_none Option.isNone_some
attribute [local go_sem] sUpon mUpon
attribute [local go_sem] Mix.isVal Mix.makes

set_option maxRecDepth 100000 in
set_option maxHeartbeats 4000000 in
/-- Two nodes of the same amounts that describe no device. -/
theorem alike (cpu mem : Int) (gn : Nat) (w : World) : Calls Tryz.prog 20 #[.agg #[.string ⟨#[]⟩, .int .i64 cpu, .int .i64 mem, .int .i64 (gn : Nat), .string ⟨#[]⟩, .slice none 0 0], .agg #[.string ⟨#[]⟩, .int .i64 cpu, .int .i64 mem, .int .i64 (gn : Nat), .string ⟨#[]⟩, .slice none 0 0]] w fun e w' => e = .returned (.bool true) ∧ Below w.heap.size w w' := by
  have h1 : (cpu != cpu) = false := by simp
  have h2 : (mem != mem) = false := by simp
  have h3 : ((gn : Int) != (gn : Int)) = false := by simp
  go_enter Tryz.func20, Tryz.ntmps20
  have hb0 : Below w.heap.size w ((w.alloc (.cells #[.string ⟨#[]⟩, .int .i64 cpu, .int .i64 mem, .int .i64 (gn : Nat), .string ⟨#[]⟩, .slice none 0 0] 48)).alloc (.cells #[.string ⟨#[]⟩, .int .i64 cpu, .int .i64 mem, .int .i64 (gn : Nat), .string ⟨#[]⟩, .slice none 0 0] 48)) := (below_alloc1 _ _).alloc (by simp) _
  go_wp2_with fail
  go_ret
  exact ⟨rfl, hb0⟩

end Go.Proofs.Qxb6612460aGreatFmt
