import Derived.Test.Qxb6612460aGreatFmtSmallC
import Derived.Test.Qxb6612460aGreatFmtMakers
namespace Go.Proofs.Qxb6612460aGreatFmt
open Go.RowKit Go.Sort
attribute [local go_sem] sUpon mUpon

theorem milliR0 (cpu mem g : Int) (w : World) (d : Nat) (os : Array Obj) :
    Calls Tryz.prog 49 #[.agg #[.int .i64 cpu, .int .i64 mem, .int .i64 g, .int .i64 0, .int .i64 0, .int .i64 0, .bool false, .string ⟨#[]⟩]] (grow (redrawn w d) os) fun e w'' => e = .returned (.int .i64 1000) ∧ ∃ p : Regrown, w'' = grow (redrawn w p.d) p.os :=
  Calls.regrown_of (milli cpu mem g 0 _)

theorem milliS (cpu mem g : Int) (w : World) :
    Calls Tryz.prog 49 #[.agg #[.int .i64 cpu, .int .i64 mem, .int .i64 g, .int .i64 0, .int .i64 0, .int .i64 0, .bool false, .string ⟨#[]⟩]] w fun e w' => e = .returned (.int .i64 1000) ∧ Below w.heap.size w w' := milli cpu mem g 0 w

/-- A whole block written; the world stays a letter. -/
theorem wpList_store_blk {P : Program} {ops : Array Oper} {rest : List Oper} {o : Oper} {a : Act} {w : World} {Q : Exit → Act → World → Prop} (hgd : o.guard = none) (ty : TypeId) (x y : Operand) (ho : o.op = .store ty x y)
    (g : Nat) (cells : Array Value) (hx : a.eval x = .pointer (some ⟨g, 0, none⟩)) (hy : a.eval y = .agg cells)
    (t : TypeId) (old : Array Value) (hg : w.heap[g]? = some (.cells old t (0, 0))) (hi : (P.info? ty).map (·.size) = some cells.size)
    (hold : old.size = cells.size) (h1 : cells.all (·.oneCell') = true)
    (h : ∀ W, W.heap[g]? = some (.cells cells t (0, 0)) → Below g w W → wpList P ops Q rest (a.put o.dst undef) W) : wpList P ops Q (o :: rest) a w := by
  refine wpList_store_row hgd ty x y ho g cells hx hy t old hg hi hold h1 (h _ (setRow_heap w g old cells t _ hg) ⟨rfl, rfl, rfl, by simp [World.setRow], fun k hk => setRow_other w g k cells (Nat.ne_of_lt hk)⟩)

/-- What a grant before it is booked looks like; x: the milli-GPU left behind it. -/
def takV (b : Nat) (cpu mem g sh : Int) (ids : Value) (x y c m l : Int) : Value :=
  .agg #[.pointer (some ⟨b, 0, none⟩), .int .i64 cpu, .int .i64 mem, .int .i64 g, .int .i64 sh, .int .i64 0, .int .i64 0, .bool false, .string ⟨#[]⟩, ids, .int .i64 x, .int .i64 y, .int .i64 c, .int .i64 m, .slice none 0 0, .int .i64 0, .bool false, .int .i64 l]

set_option maxRecDepth 100000 in
set_option maxHeartbeats 1000000 in
theorem taking0 (b : Nat) (cpu mem g : Int) (k : Nat) (ids : Option Addr) (cap : Nat) (x y c m : Int) (w : World) (hk : k ≤ 65536)
    (h0 : w.cell? ⟨b, 16, none⟩ = some (.int .i64 x)) (h1 : w.cell? ⟨b, 17, none⟩ = some (.int .i64 y)) (h2 : w.cell? ⟨b, 18, none⟩ = some (.int .i64 c)) (h3 : w.cell? ⟨b, 19, none⟩ = some (.int .i64 m)) :
    Calls Tryz.prog 51 #[.pointer (some ⟨b, 0, none⟩), reqV cpu mem g 0, .slice ids k cap] w fun e w' => ∃ x' y' c' m', e = .returned (takV b cpu mem g 0 (.slice ids k cap) x' y' c' m' 0) ∧ Below w.heap.size w w' := by
  unfold reqV takV
  have hlt := cell_lt h0
  simp only at hlt
  have hb0 : Below w.heap.size w ((w.alloc (.cells #[.int .i64 cpu, .int .i64 mem, .int .i64 g, .int .i64 0, .int .i64 0, .int .i64 0, .bool false, .string ⟨#[]⟩] 34)).alloc (.cells #[.pointer none, .int .i64 0, .int .i64 0, .int .i64 0, .int .i64 0, .int .i64 0, .int .i64 0, .bool false, .string ⟨#[]⟩, .slice none 0 0, .int .i64 0, .int .i64 0, .int .i64 0, .int .i64 0, .slice none 0 0, .int .i64 0, .bool false, .int .i64 0] 171)) := ((Below.refl _ _).alloc (Nat.le_refl _) _).alloc (by simp) _
  have h1' : Hid _ := heap_alloc2_new w (.cells #[.int .i64 cpu, .int .i64 mem, .int .i64 g, .int .i64 0, .int .i64 0, .int .i64 0, .bool false, .string ⟨#[]⟩] 34) (.cells #[.pointer none, .int .i64 0, .int .i64 0, .int .i64 0, .int .i64 0, .int .i64 0, .int .i64 0, .bool false, .string ⟨#[]⟩, .slice none 0 0, .int .i64 0, .int .i64 0, .int .i64 0, .int .i64 0, .slice none 0 0, .int .i64 0, .bool false, .int .i64 0] 171)
  have h0' : Hid (((w.alloc (.cells #[.int .i64 cpu, .int .i64 mem, .int .i64 g, .int .i64 0, .int .i64 0, .int .i64 0, .bool false, .string ⟨#[]⟩] 34)).alloc (.cells #[.pointer none, .int .i64 0, .int .i64 0, .int .i64 0, .int .i64 0, .int .i64 0, .int .i64 0, .bool false, .string ⟨#[]⟩, .slice none 0 0, .int .i64 0, .int .i64 0, .int .i64 0, .int .i64 0, .slice none 0 0, .int .i64 0, .bool false, .int .i64 0] 171)).heap[w.heap.size]? = some (.cells #[.int .i64 cpu, .int .i64 mem, .int .i64 g, .int .i64 0, .int .i64 0, .int .i64 0, .bool false, .string ⟨#[]⟩] 34)) := by
    show _ = _
    rw [heap_alloc_old _ _ (by simp), heap_alloc_new]
  go_enter Tryz.func51, Tryz.ntmps51
  go_wp2_with fail
  generalize hW : (w.alloc (.cells #[.int .i64 cpu, .int .i64 mem, .int .i64 g, .int .i64 0, .int .i64 0, .int .i64 0, .bool false, .string ⟨#[]⟩] 34)).alloc _ = W at *
  have q0 := blk_r h0'.out (i := 0) rfl
  have q1 := blk_r h0'.out (i := 1) rfl
  have q2 := blk_r h0'.out (i := 2) rfl
  have q3 := blk_r h0'.out (i := 3) rfl
  have q4 := blk_r h0'.out (i := 4) rfl
  have q5 := blk_r h0'.out (i := 5) rfl
  have q6 := blk_r h0'.out (i := 6) rfl
  have q7 := blk_r h0'.out (i := 7) rfl
  have r0 := cell_regrown ((hb0.cell (p := ⟨b, 16, none⟩) hlt).trans h0)
  have r1 := cell_regrown ((hb0.cell (p := ⟨b, 17, none⟩) hlt).trans h1)
  have r2 := cell_regrown ((hb0.cell (p := ⟨b, 18, none⟩) hlt).trans h2)
  have r3 := cell_regrown ((hb0.cell (p := ⟨b, 19, none⟩) hlt).trans h3)
  refine wp_region_makers 41 (by kernel_rfl) (by kernel_rfl) (by kernel_rfl) ?_
  simp only [List.take_succ_cons, List.take_zero, List.drop_succ_cons, List.drop_zero]
  iterate 40
    refine qd_step (fun K hK => ?_)
    go_simp
    first
      | (refine hK _ ?_; clear hK K)
      | (refine ⟨_, fun _ => (milliS cpu mem g _).mono (fun _ _ h => ⟨h.1, by simpa using h.2⟩), hK _ ?_⟩; clear hK K)
  refine qd_maker (newBlock W #[.pointer none, .int .i64 0, .int .i64 0, .int .i64 0, .int .i64 0, .int .i64 0, .int .i64 0, .bool false, .string ⟨#[]⟩, .slice none 0 0, .int .i64 0, .int .i64 0, .int .i64 0, .int .i64 0, .slice none 0 0, .int .i64 0, .bool false, .int .i64 0] 171) rfl rfl (newBlock_lasts _ _ _) (fun p => ?_) ?_
  · go_simp
    exact newBlock_alloc' _ _ _ _
  intro us hus W' hb hp
  obtain ⟨u, rfl⟩ : ∃ u, us = [u] := List.length_eq_one_iff.1 hus
  obtain ⟨⟨g', rfl, hg', hblk⟩, -⟩ := hp
  simp only [putAll, Act.put, List.setIfInBounds_toArray, List.set_cons_succ, List.set_cons_zero]
  clear q0 q1 q2 q3 q4 q5 q6 q7 r0 r1 r2 r3
  refine wpList_store_blk rfl 171 _ _ rfl g' _ rfl rfl 171 _ hblk (by kernel_rfl) rfl (by simp [Value.oneCell']) ?_
  intro W2 hw2 hb2
  have HB2 : Hid _ := hw2
  have h1'' : Hid (W2.heap[w.heap.size + 1]? = _) := (hb2.block _ (by have := heap_lt h1'.out; omega)).trans ((hb.block _ (heap_lt h1'.out)).trans h1'.out)
  clear hw2 hblk
  have s3 := blk_c h0'.out (hb.trans (hb2.mono hg')) (i := 3) rfl
  go_upto_region 6 with fail
  refine wp_region_list ?_
  refine wpList_load_row rfl 171 _ rfl g' rfl 171 _ (0, 0) _ HB2.out Tryz.underlying171 rfl (by kernel_rfl) ?_
  simp only [Act.put, List.setIfInBounds_toArray, List.set_cons_succ, List.set_cons_zero]
  refine wpList_store_blk rfl 171 _ _ rfl (w.heap.size + 1) _ rfl rfl 171 _ h1''.out (by kernel_rfl) rfl (by simp [Value.oneCell']) ?_
  intro W3 hw3 hb3
  have HB3 : Hid _ := hw3
  clear hw3
  go_wp2_with fail
  refine bodyPost_ret (results_cell_row Tryz.results51 _ W3 _ 171 _ (0, 0) _ rfl HB3.out Tryz.underlying171 rfl (by kernel_rfl)) rfl ⟨_, _, _, _, rfl, ?_⟩
  exact ((hb0.trans (hb.mono hb0.size)).trans (hb2.mono (Nat.le_trans hb0.size hg'))).trans (hb3.mono (Nat.le_succ _))

end Go.Proofs.Qxb6612460aGreatFmt
