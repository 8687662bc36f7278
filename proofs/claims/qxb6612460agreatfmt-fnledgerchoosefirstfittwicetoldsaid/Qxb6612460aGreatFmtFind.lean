/-
  What a decision recalls: keep, least, recalled.
-/
import Derived.Test.Qxb6612460aGreatFmtTake
import Derived.Test.Qxb6612460aGreatFmtChooseN
import Derived.Maps.AppendAt
namespace Go.Proofs.Qxb6612460aGreatFmt
open Go.RowKit Go.Sort Go.MuLone
attribute [local go_sem] Option.isNone_none Option.isNone_some
attribute [local go_sem] sUpon mUpon
attribute [local go_sem] Mix.isVal Mix.makes

abbrev keptV (kg n : Nat) : Value := .slice (some ⟨kg, 0, none⟩) n n
/-- The findings K lie in the row kg. -/
abbrev KeptRow (w : World) (B kg n : Nat) (K : List (Nat × Int)) : Prop := w.ownsRow B 168 3 (.slice (some ⟨kg, 0, none⟩) n n) n (keptCells K)
theorem zeroKept (n : Nat) : (Builtin.zeroCells (Value.agg #[.int .u8 0, .int .i64 0, .int .u64 0]).cells n).toList = keptCells (List.replicate n (0, 0)) := by
  rw [← madeKept]
  simp [Builtin.zeroCells, madeCells, Value.cells]
theorem kept_one : ∀ (K : List (Nat × Int)), ∀ v ∈ keptCells K, v.oneCell' = true
  | [], v, h => by simp [keptCells] at h
  | x :: r, v, h => by
    simp only [keptCells, List.mem_append, List.mem_cons, List.not_mem_nil, or_false] at h
    rcases h with (rfl | rfl | rfl) | h
    · rfl
    · rfl
    · rfl
    · exact kept_one r v h
theorem wpList_clearK {w : World} {ops : Array Oper} {rest : List Oper} {o : Oper} {a : Act} {Q : Exit → Act → World → Prop} (hgd : o.guard = none) (x : Operand) (ho : o.op = .call { callee := .builtin .clear, args := #[x], argTypes := #[163] })
    (B kg n : Nat) (K : List (Nat × Int)) (hn : 0 < n) (hx : a.eval x = .slice (some ⟨kg, 0, none⟩) n n) (hK : KeptRow w B kg n K)
    (h : ∀ W, KeptRow W B kg n (List.replicate n (0, 0)) → OnlyS [kg] w W → wpList Tryz.prog ops Q rest (a.put o.dst (.tuple #[])) W) : wpList Tryz.prog ops Q (o :: rest) a w := by
  refine wpList_plain hgd fun K' hK' => ?_
  obtain ⟨h1, ⟨h2, _⟩ | ⟨g, cap, cur, e1, e2, e3, e4, e5, e6, e7⟩⟩ := hK
  · cases h2
  · cases e1
    have hl : (keptCells (List.replicate n (0, 0))).length = n * 3 := by rw [keptCells_length, List.length_replicate]
    have hr := run_storeCells_at (P := Tryz.prog) kg 0 168 (keptCells (List.replicate n (0, 0))) 0 cur w e3 (by rw [hl]; omega) (kept_one _)
    simp only [Nat.zero_add, List.take_zero, List.nil_append, hl] at hr
    rw [List.drop_of_length_le (by rw [Array.length_toList]; omega), List.append_nil] at hr
    obtain ⟨m, rfl⟩ : ∃ m, n = m + 1 := ⟨n - 1, by omega⟩
    have hrun : (Builtin.clear_ #[163] o.type #[.slice (some ⟨kg, 0, none⟩) (m + 1) (m + 1)]).run Tryz.prog w = .ok (.tuple #[]) (w.setRow kg (keptCells (List.replicate (m + 1) (0, 0))).toArray) := by
      simp [Builtin.clear_, run_underlying Tryz.underlying163, zeroKept, hr, Result.andThen]
    unfold Oper.wp execOp
    simp only [ho, Go.resolve, invoke, builtin, Sem.run_bind, Sem.run_pure, Result.andThen_ok, List.map_toArray, List.map_cons, List.map_nil, hx, hrun]
    refine hK' _ _ (h _ ⟨hl, .inr ⟨kg, m + 1, _, rfl, e2, setRow_heap w kg cur _ 168 _ e3, Nat.le_refl _, e5, by simp [hl], by simp [← hl]⟩⟩ ⟨rfl, rfl, rfl, by simp [World.setRow], fun q hq hne => setRow_other w kg q _ (fun e => hne (by simp [e]))⟩)

set_option maxRecDepth 100000 in
set_option maxHeartbeats 4000000 in
theorem keepF (f i kg n fd : Nat) (cost : Int) (fc : Array Value) (B : Nat) (K : List (Nat × Int)) (w : World) (hf : w.heap[f]? = some (.cells fc 165 (0, 0))) (h10 : fc[10]? = some (keptV kg n)) (hK : KeptRow w B kg n K) (hi : i < n) :
    Calls Tryz.prog 36 #[.pointer (some ⟨f, 0, none⟩), .int .i64 (i : Nat), .agg #[.int .u8 (fd : Nat), .int .i64 cost], .int .u64 0] w fun e w' => e = .returned (.tuple #[]) ∧ OnlyS [kg] w w' ∧ KeptRow w' B kg n (K.set i (fd, cost)) := by
  have HF : Hid _ := hf
  have HK : Hid (KeptRow w B kg n K) := hK
  have HKl : Hid (K.length = n) := by have := hK.1; rw [keptCells_length] at this; show _ = _; omega
  have c10 : w.cell? ⟨f, 10, none⟩ = some (keptV kg n) := blk_c HF.out (Below.refl _ _) h10
  have hlk := ownsRow_lt hK kg rfl
  have hlf := heap_lt hf
  clear hf hK
  go_enter Tryz.func36, Tryz.ntmps36
  have HT : Hid ((w.alloc (.cells #[.int .u8 (fd : Nat), .int .i64 cost] 125)).heap[w.heap.size]? = some (.cells #[.int .u8 (fd : Nat), .int .i64 cost] 125)) := heap_alloc_new w _
  have hb0 : Below w.heap.size w (w.alloc (.cells #[.int .u8 (fd : Nat), .int .i64 cost] 125)) := below_alloc1 _ _
  go_upto_region 2 with fail
  generalize hW : w.alloc (.cells #[.int .u8 (fd : Nat), .int .i64 cost] 125) = W at *
  clear hW
  have r10 := cell_regrown ((hb0.cell (cell_lt c10)).trans c10)
  have r0 := blk_r HT.out (i := 0) rfl
  have r1 := blk_r HT.out (i := 1) rfl
  have HK1 : Hid (KeptRow W B kg n K) := owns_below HK.out hb0
  clear c10
  refine wp_region_quiet_list 8 (by kernel_rfl) (by kernel_rfl) (by kernel_rfl) ?_
  simp only [List.take_succ_cons, List.take_zero, List.drop_succ_cons, List.drop_zero]
  repeat (go_big_quiet_step (fail))
  refine wpQuiet_nil ?_
  intro X hbX
  clear r10 r0 r1
  have hoX := owns_below HK1.out hbX
  have lX : (keptCells K).length = n * 3 := by rw [keptCells_length, HKl.out]
  have c0 := hoX.cellAt (i * 3) (by omega)
  have c1 := hoX.cellAt (i * 3 + 1) (by omega)
  have c2 := hoX.cellAt (i * 3 + 2) (by omega)
  rw [List.getElem?_eq_getElem (by omega)] at c0 c1 c2
  have f0 := hoX.frozenAt (i * 3)
  have f1 := hoX.frozenAt (i * 3 + 1)
  have f2 := hoX.frozenAt (i * 3 + 2)
  have hoN := (((hoX.stored (i * 3) (.int .u8 (fd : Nat))).1.stored (i * 3 + 1) (.int .i64 cost)).1.stored (i * 3 + 2) (.int .u64 0)).1
  rw [keptCells_set K i (fd, cost) (by rw [HKl.out]; exact hi)] at hoN
  have HON : Hid _ := hoN
  have HBN : Hid (OnlyS [kg] w (((X.setCell ⟨kg, i * 3, none⟩ (.int .u8 (fd : Nat))).setCell ⟨kg, i * 3 + 1, none⟩ (.int .i64 cost)).setCell ⟨kg, i * 3 + 2, none⟩ (.int .u64 0))) := by
    show OnlyS _ _ _
    iterate 3 refine OnlyS.setCell ?_ (.inl (by simp)) _
    exact (OnlyS.of hb0).trans (OnlyS.of hbX)
  clear hoN hoX
  go_wp2_with fail
  go_end0
  exact ⟨rfl, HBN.out, HON.out⟩

set_option maxRecDepth 100000 in
set_option maxHeartbeats 4000000 in
theorem leastF (f i kg n fd : Nat) (cost : Int) (fc : Array Value) (B : Nat) (K : List (Nat × Int)) (w : World) (hf : w.heap[f]? = some (.cells fc 165 (0, 0))) (h10 : fc[10]? = some (keptV kg n)) (hK : KeptRow w B kg n K) (hi : i < n) (hki : K[i]? = some (fd, cost)) (hfd : fd ≤ 4) :
    Calls Tryz.prog 35 #[.pointer (some ⟨f, 0, none⟩), .int .i64 (i : Nat), .int .u64 0] w fun e w' => e = .returned (.int .i64 (if fd = 3 then cost else -9223372036854775808)) ∧ w = w' := by
  have c10 : w.cell? ⟨f, 10, none⟩ = some (keptV kg n) := blk_c hf (Below.refl _ _) h10
  have HKl : K.length = n := by have := hK.1; rw [keptCells_length] at this; omega
  have lX : (keptCells K).length = n * 3 := by rw [keptCells_length, HKl]
  obtain ⟨k0, k1, k2⟩ := keptCells_at K i (fd, cost) hki
  have c0 : w.cell? ⟨kg, i * 3, none⟩ = some (.int .u8 (fd : Nat)) := (hK.cellAt (i * 3) (by omega)).trans k0
  have c1 : w.cell? ⟨kg, i * 3 + 1, none⟩ = some (.int .i64 cost) := (hK.cellAt (i * 3 + 1) (by omega)).trans k1
  have c2 : w.cell? ⟨kg, i * 3 + 2, none⟩ = some (.int .u64 0) := (hK.cellAt (i * 3 + 2) (by omega)).trans k2
  clear k0 k1 k2 hK hf h10 lX HKl hki
  by_cases h3 : fd = 3
  · subst h3
    rw [if_pos rfl]
    go_enter Tryz.func35, Tryz.ntmps35
    go_wp2_with fail
    go_ret
    exact ⟨rfl, rfl⟩
  · rw [if_neg h3]
    have d3 : ((fd : Int) != 3) = true := bne_iff_ne.2 (by omega)
    go_enter Tryz.func35, Tryz.ntmps35
    go_wp2_with fail
    go_ret
    exact ⟨rfl, rfl⟩

end Go.Proofs.Qxb6612460aGreatFmt
