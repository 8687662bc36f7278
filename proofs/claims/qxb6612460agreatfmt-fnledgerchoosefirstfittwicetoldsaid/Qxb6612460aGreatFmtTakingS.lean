import Derived.Test.Qxb6612460aGreatFmtWeighF
import Derived.Test.Qxb6612460aGreatFmtPickT
namespace Go.Proofs.Qxb6612460aGreatFmt
open Go.RowKit Go.Sort
attribute [local go_sem] Option.isNone_none Option.isNone_some
attribute [local go_sem] sUpon mUpon

theorem milliT (cpu mem g sh : Int) (hs0 : 0 < sh) (w : World) :
    Calls Tryz.prog 49 #[.agg #[.int .i64 cpu, .int .i64 mem, .int .i64 g, .int .i64 sh, .int .i64 0, .int .i64 0, .bool false, .string ⟨#[]⟩]] w fun e w' => e = .returned (.int .i64 sh) ∧ Below w.heap.size w w' := by
  have h := milli cpu mem g sh w
  unfold milliOf at h
  rw [if_pos hs0] at h
  exact h

set_option maxRecDepth 100000 in
set_option maxHeartbeats 1000000 in
theorem takingS (b : Nat) (cpu mem g sh : Int) (hs0 : 0 < sh) (gi cap id : Nat) (x y c m : Int) (w : World) (hid : w.cell? ⟨gi, 0, none⟩ = some (.int .i64 (id : Nat))) (hH : HealthAt w b id true) (g8 o8 n8 cap8 : Nat) (h8 : w.cell? ⟨b, 8, none⟩ = some (.slice (some ⟨g8, o8, none⟩) n8 cap8)) (hn8 : id < n8) (hc8 : w.cell? ⟨g8, o8 + id, none⟩ = some (.int .i64 0))
    (h0 : w.cell? ⟨b, 16, none⟩ = some (.int .i64 x)) (h1 : w.cell? ⟨b, 17, none⟩ = some (.int .i64 y)) (h2 : w.cell? ⟨b, 18, none⟩ = some (.int .i64 c)) (h3 : w.cell? ⟨b, 19, none⟩ = some (.int .i64 m)) :
    Calls Tryz.prog 51 #[.pointer (some ⟨b, 0, none⟩), reqV cpu mem g sh, .slice (some ⟨gi, 0, none⟩) 1 cap] w fun e w' => ∃ x' y' c' m', e = .returned (takV b cpu mem g sh (.slice (some ⟨gi, 0, none⟩) 1 cap) x' y' c' m' 1000) ∧ Below w.heap.size w w' := by
  unfold reqV takV
  have hlt := cell_lt h0
  simp only at hlt
  have HH : Hid (HealthAt w b id true) := hH
  have HID : Hid _ := hid
  have H8 : Hid _ := h8
  have HC8 : Hid _ := hc8
  clear hH hid h8 hc8
  have d3 : decide (0 < sh) = true := by simp; omega
  have hb0 : Below w.heap.size w ((w.alloc (.cells #[.int .i64 cpu, .int .i64 mem, .int .i64 g, .int .i64 sh, .int .i64 0, .int .i64 0, .bool false, .string ⟨#[]⟩] 34)).alloc (.cells #[.pointer none, .int .i64 0, .int .i64 0, .int .i64 0, .int .i64 0, .int .i64 0, .int .i64 0, .bool false, .string ⟨#[]⟩, .slice none 0 0, .int .i64 0, .int .i64 0, .int .i64 0, .int .i64 0, .slice none 0 0, .int .i64 0, .bool false, .int .i64 0] 171)) := ((Below.refl _ _).alloc (Nat.le_refl _) _).alloc (by simp) _
  have h1' : Hid _ := heap_alloc2_new w (.cells #[.int .i64 cpu, .int .i64 mem, .int .i64 g, .int .i64 sh, .int .i64 0, .int .i64 0, .bool false, .string ⟨#[]⟩] 34) (.cells #[.pointer none, .int .i64 0, .int .i64 0, .int .i64 0, .int .i64 0, .int .i64 0, .int .i64 0, .bool false, .string ⟨#[]⟩, .slice none 0 0, .int .i64 0, .int .i64 0, .int .i64 0, .int .i64 0, .slice none 0 0, .int .i64 0, .bool false, .int .i64 0] 171)
  have h0' : Hid (((w.alloc (.cells #[.int .i64 cpu, .int .i64 mem, .int .i64 g, .int .i64 sh, .int .i64 0, .int .i64 0, .bool false, .string ⟨#[]⟩] 34)).alloc (.cells #[.pointer none, .int .i64 0, .int .i64 0, .int .i64 0, .int .i64 0, .int .i64 0, .int .i64 0, .bool false, .string ⟨#[]⟩, .slice none 0 0, .int .i64 0, .int .i64 0, .int .i64 0, .int .i64 0, .slice none 0 0, .int .i64 0, .bool false, .int .i64 0] 171)).heap[w.heap.size]? = some (.cells #[.int .i64 cpu, .int .i64 mem, .int .i64 g, .int .i64 sh, .int .i64 0, .int .i64 0, .bool false, .string ⟨#[]⟩] 34)) := by
    show _ = _
    rw [heap_alloc_old _ _ (by simp), heap_alloc_new]
  go_enter Tryz.func51, Tryz.ntmps51
  go_wp2_with fail
  generalize hW : (w.alloc (.cells #[.int .i64 cpu, .int .i64 mem, .int .i64 g, .int .i64 sh, .int .i64 0, .int .i64 0, .bool false, .string ⟨#[]⟩] 34)).alloc _ = W at *
  have q0 := blk_r h0'.out (i := 0) rfl
  have q1 := blk_r h0'.out (i := 1) rfl
  have q2 := blk_r h0'.out (i := 2) rfl
  have q3 := blk_r h0'.out (i := 3) rfl
  have q4 := blk_r h0'.out (i := 4) rfl
  have q5 := blk_r h0'.out (i := 5) rfl
  have q6 := blk_r h0'.out (i := 6) rfl
  have q7 := blk_r h0'.out (i := 7) rfl
  have r0 := cell_regrown ((hb0.cell (p := ⟨b, 16, none⟩) hlt).trans h0)
  have r1 := cell_regrown ((hb0.cell (p := ⟨b, 17, none⟩) hlt).trans h1)
  have r2 := cell_regrown ((hb0.cell (p := ⟨b, 18, none⟩) hlt).trans h2)
  have r3 := cell_regrown ((hb0.cell (p := ⟨b, 19, none⟩) hlt).trans h3)
  refine wp_region_makers 41 (by kernel_rfl) (by kernel_rfl) (by kernel_rfl) ?_
  simp only [List.take_succ_cons, List.take_zero, List.drop_succ_cons, List.drop_zero]
  iterate 40
    refine qd_step (fun K hK => ?_)
    go_simp
    first
      | (refine hK _ ?_; clear hK K)
      | (refine ⟨_, fun _ => (milliT cpu mem g sh hs0 _).mono (fun _ _ h => ⟨h.1, by simpa using h.2⟩), hK _ ?_⟩; clear hK K)
  refine qd_maker (newBlock W #[.pointer none, .int .i64 0, .int .i64 0, .int .i64 0, .int .i64 0, .int .i64 0, .int .i64 0, .bool false, .string ⟨#[]⟩, .slice none 0 0, .int .i64 0, .int .i64 0, .int .i64 0, .int .i64 0, .slice none 0 0, .int .i64 0, .bool false, .int .i64 0] 171) rfl rfl (newBlock_lasts _ _ _) (fun p => ?_) ?_
  · go_simp
    exact newBlock_alloc' _ _ _ _
  intro us hus W' hb hp
  obtain ⟨u, rfl⟩ : ∃ u, us = [u] := List.length_eq_one_iff.1 hus
  obtain ⟨⟨g', rfl, hg', hblk⟩, -⟩ := hp
  simp only [putAll, Act.put, List.setIfInBounds_toArray, List.set_cons_succ, List.set_cons_zero]
  clear q0 q1 q2 q3 q4 q5 q6 q7 r0 r1 r2 r3
  refine wpList_store_blk rfl 171 _ _ rfl g' _ rfl rfl 171 _ hblk (by kernel_rfl) rfl (by simp [Value.oneCell']) ?_
  intro W2 hw2 hb2
  have HB2 : Hid _ := hw2
  have h1'' : Hid (W2.heap[w.heap.size + 1]? = _) := (hb2.block _ (by have := heap_lt h1'.out; omega)).trans ((hb.block _ (heap_lt h1'.out)).trans h1'.out)
  clear hw2 hblk
  have s3 := blk_c h0'.out (hb.trans (hb2.mono hg')) (i := 3) rfl
  have hbT : Below w.heap.size w W2 := (hb0.trans (hb.mono hb0.size)).trans (hb2.mono (Nat.le_trans hb0.size hg'))
  have sid := (hbT.cell (cell_lt HID.out)).trans HID.out
  go_wp2_with fail
  refine (left b id true W2 (HH.out.below hbT) g8 o8 n8 cap8 ((hbT.cell (cell_lt H8.out)).trans H8.out) hn8 ((hbT.cell (cell_lt HC8.out)).trans HC8.out)).mono ?_
  rintro e w' ⟨rfl, rfl⟩
  have t17 := blk_c HB2.out (Below.refl _ _) (i := 17) rfl
  have f17 := blk_f HB2.out (Below.refl _ _) 17
  have HB2' : Hid ((W2.setCell ⟨g', 17, none⟩ (.int .i64 1000)).heap[g']? = _) := setCell_blk HB2.out _
  have hg2 : w.heap.size + 1 ≠ g' := by have := heap_lt h1'.out; omega
  have h1b : Hid ((W2.setCell ⟨g', 17, none⟩ (.int .i64 1000)).heap[w.heap.size + 1]? = _) := (Below.heap_setCell _ _ _ _ hg2).trans h1''.out
  have hbU : Below w.heap.size w (W2.setCell ⟨g', 17, none⟩ (.int .i64 1000)) := hbT.setCell (by have := heap_lt h1'.out; simp only; omega) _
  go_upto_region 6 with fail
  generalize hW2x : W2.setCell ⟨g', 17, none⟩ (.int .i64 1000) = W2x at *
  clear hW2x t17 f17 sid s3
  refine wp_region_list ?_
  refine wpList_load_row rfl 171 _ rfl g' rfl 171 _ (0, 0) _ HB2'.out Tryz.underlying171 rfl (by kernel_rfl) ?_
  simp only [Act.put, List.setIfInBounds_toArray, List.set_cons_succ, List.set_cons_zero]
  refine wpList_store_blk rfl 171 _ _ rfl (w.heap.size + 1) _ rfl rfl 171 _ h1b.out (by kernel_rfl) rfl (by simp [Value.oneCell']) ?_
  intro W3 hw3 hb3
  have HB3 : Hid _ := hw3
  clear hw3
  go_wp2_with fail
  refine bodyPost_ret (results_cell_row Tryz.results51 _ W3 _ 171 _ (0, 0) _ rfl HB3.out Tryz.underlying171 rfl (by kernel_rfl)) rfl ⟨_, _, _, _, rfl, ?_⟩
  exact hbU.trans (hb3.mono (Nat.le_succ _))

end Go.Proofs.Qxb6612460aGreatFmt
