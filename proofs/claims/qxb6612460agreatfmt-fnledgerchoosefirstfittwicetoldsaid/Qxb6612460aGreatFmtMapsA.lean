/-
  The map of the requests that a ledger has decided; spare.
-/
import Derived.Test.Qxb6612460aGreatFmtLk
import Derived.Test.Qxb6612460aGreatFmtMaps3
import Derived.Laws.StructEq
namespace Go.Proofs.Qxb6612460aGreatFmt
open Go.RowKit Go.Sort Go.MuLone
attribute [local go_sem] Option.isNone_none Option.isNone_some
attribute [local go_sem] sUpon mUpon
attribute [local go_sem] Mix.isVal Mix.makes

abbrev askA (rc rm k sh : Int) (ac : Bool) : Array Value := #[.int .i64 rc, .int .i64 rm, .int .i64 k, .int .i64 sh, .int .i64 0, .int .i64 0, .bool false, .string ⟨#[]⟩, .bool ac]
theorem eqA (rc rm k sh : Int) (ac : Bool) (w : World) : (Op.equal 104 (.agg (askA rc rm k sh ac)) (.agg (askA rc rm k sh ac))).run Tryz.prog w = .ok true w := by
  unfold Op.equal
  rw [show Op.maxDepth = 9999 + 1 from rfl, run_equalIn_agg w 9999 104 _ _ (by kernel_rfl) (by kernel_rfl)]
  simp [go_sem]
theorem checkA (emp : Bool) (rc rm k sh : Int) (ac : Bool) (w : World) : (Instr.checkKey emp 10000 104 (.agg (askA rc rm k sh ac))).run Tryz.prog w = .ok () w := by kernel_rfl
theorem lookupA_nil (rc rm k sh : Int) (ac : Bool) (w : World) : (Instr.lookup 86 (.map none) (.agg (askA rc rm k sh ac)) false).run Tryz.prog w = .ok (.pointer none) w := by
  have hf : (Instr.findKey 104 (.agg (askA rc rm k sh ac)) []).run Tryz.prog w = .ok none w := by simp [Instr.findKey, run_underlying Tryz.underlying104, Instr.findNow]
  simp [Instr.lookup, run_underlying Tryz.underlying86, checkA, hf, Result.andThen]
theorem lookupA_one {w : World} {b : Nat} {rc rm k sh : Int} {ac : Bool} {v : Value} (hb : w.heap[b]? = some (.map #[{ key := .agg (askA rc rm k sh ac), val := v, born := 0 }] 1)) : (Instr.lookup 86 (.map (some b)) (.agg (askA rc rm k sh ac)) false).run Tryz.prog w = .ok v w := by
  have hf : (Instr.findKey 104 (.agg (askA rc rm k sh ac)) [{ key := .agg (askA rc rm k sh ac), val := v, born := 0 }]).run Tryz.prog w = .ok (some (0, v)) w := by
    simp [Instr.findKey, run_underlying Tryz.underlying104, Instr.findNow, Instr.sameNow, Instr.findAsking, eqA, Result.andThen]
  simp [Instr.lookup, run_underlying Tryz.underlying86, MapKept.run_getObj_map hb, checkA, hf, Result.andThen]
theorem updateA {w : World} {b : Nat} (hb : w.heap[b]? = some (.map #[] 0)) (rc rm k sh : Int) (ac : Bool) (v : Value) : (Instr.mapUpdate 86 (.map (some b)) (.agg (askA rc rm k sh ac)) v).run Tryz.prog w = .ok () (ChangeMaps.setBlock w b (.map #[{ key := .agg (askA rc rm k sh ac), val := v, born := 0 }] 1)) := by
  have hf : (Instr.findKey 104 (.agg (askA rc rm k sh ac)) []).run Tryz.prog w = .ok none w := by simp [Instr.findKey, run_underlying Tryz.underlying104, Instr.findNow]
  simp [Instr.mapUpdate, run_underlying Tryz.underlying86, MapKept.run_getObj_map hb, checkA, hf, MapKept.run_setObj_map _ hb, Result.andThen]
  rfl

def findC (ask : Array Value) (mx ofv td : Value) (busy : Bool) : Array Value := ask ++ #[mx, ofv, td, .bool busy]
def find0 : Array Value := #[.int .i64 0, .int .i64 0, .int .i64 0, .int .i64 0, .int .i64 0, .int .i64 0, .bool false, .string ⟨#[]⟩, .bool false, .pointer none, .slice none 0 0, .slice none 0 0, .bool false]

theorem quo_ok {n : Nat} (h2 : 2 ≤ n) (h4 : n ≤ 4096) : (0 : Int) < Int.tdiv 8388608 ((n : Int) * 24) ∧ Int.tdiv 8388608 ((n : Int) * 24) ≤ 8388608 := by
  rw [Int.tdiv_eq_ediv_of_nonneg (by omega)]
  have h1 : (1 : Int) ≤ 8388608 / ((n : Int) * 24) := by
    rw [Int.le_ediv_iff_mul_le (by omega)]
    omega
  have h2 : (8388608 : Int) / ((n : Int) * 24) ≤ 8388608 := Int.ediv_le_self _ (by omega)
  omega

set_option maxRecDepth 100000 in
set_option maxHeartbeats 4000000 in
theorem spareNew (l n : Nat) (w : World) (h10 : w.cell? ⟨l, 10, none⟩ = some (.int .i64 0)) (h2 : 2 ≤ n) (h4 : n ≤ 4096) :
    Calls Tryz.prog 62 #[.pointer (some ⟨l, 3, none⟩), .int .i64 (n : Nat)] w fun e w' => ∃ g, e = .returned (.pointer (some ⟨g, 0, none⟩)) ∧ w.heap.size ≤ g ∧ Below w.heap.size w w' ∧ w'.heap[g]? = some (.cells find0 165 (0, 0)) := by
  have H10 : Hid _ := h10
  have hq := quo_ok h2 h4
  have hn0 : ¬ ((n : Int) * 24 = 0) := by omega
  have hn1 : ¬ (n = 0) := by omega
  have hw1 : IntKind.i64.wrap ((n : Int) * 24) = (n : Int) * 24 := by rw [IntKind.wrap_i64]; omega
  have hw2 : IntKind.i64.wrap (Int.tdiv 8388608 ((n : Int) * 24)) = Int.tdiv 8388608 ((n : Int) * 24) := by rw [IntKind.wrap_i64]; omega
  have hq1 : decide ((0 : Int) < Int.tdiv 8388608 ((n : Int) * 24)) = true := by simp [hq.1]
  have hq0 : 0 < Int.tdiv 8388608 ((n : Int) * 24) := hq.1
  clear hq
  clear h10
  go_enter Tryz.func62, Tryz.ntmps62
  go_upto_region 1 with fail
  refine Mix.wp_region_mix (Mix.mkKd [(3, .mk (fun u => u = .int .i64 0) (fun _ _ => True) []), (4, .pur), (5, .pur), (6, .pur), (7, .pur)]) (by kernel_rfl) (by kernel_rfl) (Mix.makers_of ?_) ?_
  · intro p hp
    simp only [List.mem_cons, List.not_mem_nil, or_false] at hp
    rcases hp with rfl | rfl | rfl | rfl | rfl
    · exact ⟨fun _ _ _ _ _ => trivial, _, _, rfl, rfl, by simp⟩
    all_goals trivial
  iterate 3
    refine Mix.x_det rfl (fun K hK => ?_)
    go_simp
    refine hK _ ?_
    clear hK K
  refine Mix.x_mk _ _ _ rfl rfl (.int .i64 0) rfl (fun p _ => ?_) ?_
  · go_simp
    refine (listLen l 0 _ (cell_regrown H10.out p.d p.os)).mono ?_
    rintro e w'' ⟨rfl, rfl⟩
    simpa using Below.refl _ _
  rintro u rfl
  iterate 4
    refine Mix.x_pur rfl (fun K hK => ?_)
    go_simp
    refine hK _ ?_
    clear hK K
  intro W hW
  obtain ⟨hb, -⟩ := hW
  have HBW : Hid _ := hb
  clear hb
  show Exit.then _ _ _ _ _
  go_wp2_with fail
  go_ret
  exact ⟨_, rfl, HBW.out.size, HBW.out.alloc HBW.out.size _, heap_alloc_new W _⟩

end Go.Proofs.Qxb6612460aGreatFmt
