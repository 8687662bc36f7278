import Derived.Test.Qxb6612460aGreatFmtSmallB
namespace Go.Proofs.Qxb6612460aGreatFmt
open Go.RowKit Go.Sort

set_option maxRecDepth 100000 in
theorem beaten_no (c : Nat) (i : Int) (f : Int) (x : Int) (w : World) (h2 : f ≠ 2) (h4 : f ≠ 4) :
    Calls Tryz.prog 37 #[.pointer (some ⟨c, 0, none⟩), .int .i64 i, .agg #[.int .u8 f, .int .i64 x]] w fun e w' => e = .returned (.bool false) ∧ Below w.heap.size w w' := by
  have d2 : (f == 2) = false := by simp [h2]
  have d4 : (f == 4) = false := by simp [h4]
  have e2 : (f != 2) = true := by simp [h2]
  go_enter Tryz.func37, Tryz.ntmps37
  go_wp2_with fail
  go_ret
  exact ⟨rfl, (Below.refl _ _).alloc (Nat.le_refl _) _⟩

set_option maxRecDepth 100000 in
theorem beaten_first (c : Nat) (i : Int) (x : Int) (n : Int) (w : World) (hn : w.cell? ⟨c, 0, none⟩ = some (.int .i64 n)) (hneg : n < 0) :
    Calls Tryz.prog 37 #[.pointer (some ⟨c, 0, none⟩), .int .i64 i, .agg #[.int .u8 2, .int .i64 x]] w fun e w' => e = .returned (.bool true) ∧ Below w.heap.size w w' := by
  have hlt := cell_lt hn
  simp only at hlt
  go_enter Tryz.func37, Tryz.ntmps37
  go_wp2_with fail
  go_ret
  exact ⟨rfl, (Below.refl _ _).alloc (Nat.le_refl _) _⟩

set_option maxRecDepth 100000 in
set_option maxHeartbeats 400000 in
theorem beaten_late (c : Nat) (i : Int) (x : Int) (n : Int) (w : World) (hn : w.cell? ⟨c, 0, none⟩ = some (.int .i64 n)) (hf : w.cell? ⟨c, 1, none⟩ = some (.int .u8 2)) (hx : w.cell? ⟨c, 2, none⟩ = some (.int .i64 x)) (hneg : 0 ≤ n) (hi : n ≤ i) :
    Calls Tryz.prog 37 #[.pointer (some ⟨c, 0, none⟩), .int .i64 i, .agg #[.int .u8 2, .int .i64 x]] w fun e w' => e = .returned (.bool false) ∧ Below w.heap.size w w' := by
  have hlt := cell_lt hn
  simp only at hlt
  have d1 : decide (x < x) = false := by simp
  have d2 : decide (i < n) = false := by simp; omega
  go_enter Tryz.func37, Tryz.ntmps37
  go_wp2_with fail
  go_quiet (fail)
  go_wp2_with fail
  go_ret
  exact ⟨rfl, below_drewN ((Below.refl _ _).alloc (Nat.le_refl _) _) _⟩

set_option maxRecDepth 100000 in
theorem resolve (b : Nat) (n : Int) (ids : Value) (a : Option Addr) (l cp : Nat) (hids : ids = .slice a l cp) (cpu mem g sh : Int) (w : World) :
    Calls Tryz.prog 39 #[.pointer (some ⟨b, 0, none⟩), .agg #[.int .i64 n, ids, .int .i64 cpu, .int .i64 mem, .int .i64 g, .int .i64 sh, .int .i64 0, .int .i64 0, .bool false, .string ⟨#[]⟩]] w fun e w' => e = .returned (.tuple #[.agg #[.int .i64 n, ids, .int .i64 cpu, .int .i64 mem, .int .i64 g, .int .i64 sh, .int .i64 0, .int .i64 0, .bool false, .string ⟨#[]⟩], .nilIface]) ∧ Below w.heap.size w w' := by
  subst hids
  go_enter Tryz.func39, Tryz.ntmps39
  go_wp2_with fail
  refine bodyPost_ret (v := .tuple #[.agg #[.int .i64 n, .slice a l cp, .int .i64 cpu, .int .i64 mem, .int .i64 g, .int .i64 sh, .int .i64 0, .int .i64 0, .bool false, .string ⟨#[]⟩], .nilIface]) (by simp [results, Tryz.results39, go_sem]) rfl ⟨rfl, ?_⟩
  exact ((Below.refl _ _).alloc (Nat.le_refl _) _).alloc (by simp) _

end Go.Proofs.Qxb6612460aGreatFmt
