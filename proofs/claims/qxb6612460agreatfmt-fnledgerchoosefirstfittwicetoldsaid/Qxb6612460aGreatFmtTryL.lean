import Derived.Test.Qxb6612460aGreatFmtTryS
namespace Go.Proofs.Qxb6612460aGreatFmt
open Go.RowKit Go.Sort
attribute [local go_sem] Option.isNone_none Option.isNone_some
attribute [local go_sem] sUpon mUpon
attribute [local go_sem] Mix.isVal Mix.makes

set_option maxRecDepth 100000 in
set_option maxHeartbeats 4000000 in
theorem try_late (s m i b q c : Nat) (n0 : Int) (cpu mem rc rm kk sh mil : Int) (across : Bool) (ps : List (Nat × Bool)) (fr : List Nat) (w : World)
    (hN : NodeAt w s m i b) (hB : BooksAt w b cpu mem ps fr) (hq : w.heap[q]? = some (.cells #[.int .i64 rc, .int .i64 rm, .int .i64 kk, .int .i64 sh, .int .i64 0, .int .i64 0, .bool false, .string ⟨#[]⟩, .bool across, .int .i64 (-1), .bool false, .int .i64 mil] 121 (0, 0))) (hcn : w.cell? ⟨c, 0, none⟩ = some (.int .i64 n0)) (hcf : w.cell? ⟨c, 1, none⟩ = some (.int .u8 2)) (hcc : w.cell? ⟨c, 2, none⟩ = some (.int .i64 0)) (hn0 : 0 ≤ n0) (hn1 : n0 ≤ i) :
    Calls Tryz.prog 34 #[.pointer (some ⟨s, 0, none⟩), .int .i64 i, .pointer (some ⟨q, 0, none⟩), .pointer (some ⟨c, 0, none⟩), .int .i64 (-9223372036854775808)] w fun e w' => e = .returned (.tuple #[.agg #[.int .u8 3, .int .i64 0], .slice none 0 0]) ∧ Below w.heap.size w w' := by
  have HB : Hid (BooksAt w b cpu mem ps fr) := hB
  have HN : Hid (NodeAt w s m i b) := hN
  have HQ : Hid (w.heap[q]? = some (.cells #[.int .i64 rc, .int .i64 rm, .int .i64 kk, .int .i64 sh, .int .i64 0, .int .i64 0, .bool false, .string ⟨#[]⟩, .bool across, .int .i64 (-1), .bool false, .int .i64 mil] 121 (0, 0))) := hq
  have HC : Hid _ := hcn
  have HCF : Hid _ := hcf
  have HCC : Hid _ := hcc
  obtain ⟨ng, no, n, cap, n1, n2, n3⟩ := hN.nodes
  have lts := cell_lt n1
  have ltn := cell_lt n3
  have ltb := cell_lt hB.c1
  have ltc := cell_lt hcn
  have ltq := heap_lt hq
  simp only at lts ltn ltb ltc
  clear hB hN hq hcn hcf hcc
  go_enter Tryz.func34, Tryz.ntmps34
  go_upto_region 1 with fail
  have hb0 : Below w.heap.size w (w.alloc (.cells #[.int .u8 0, .int .i64 0] 125)) := below_alloc1 _ _
  have hf0 : Hid ((w.alloc (.cells #[.int .u8 0, .int .i64 0] 125)).heap[w.heap.size]? = some (.cells #[.int .u8 0, .int .i64 0] 125)) := heap_alloc_new w _
  generalize hW : w.alloc (.cells #[.int .u8 0, .int .i64 0] 125) = W at *
  have r1 := cell_regrown ((hb0.cell (p := ⟨s, 0, none⟩) lts).trans n1)
  have r3 := cell_regrown ((hb0.cell (p := ⟨ng, no + i, none⟩) ltn).trans n3)
  have HQW : Hid (W.heap[q]? = some (.cells #[.int .i64 rc, .int .i64 rm, .int .i64 kk, .int .i64 sh, .int .i64 0, .int .i64 0, .bool false, .string ⟨#[]⟩, .bool across, .int .i64 (-1), .bool false, .int .i64 mil] 121 (0, 0))) := (hb0.block q ltq).trans HQ.out
  have q0 := blk_r HQW.out (i := 0) rfl
  have q1 := blk_r HQW.out (i := 1) rfl
  have q2 := blk_r HQW.out (i := 2) rfl
  have q3 := blk_r HQW.out (i := 3) rfl
  have q4 := blk_r HQW.out (i := 4) rfl
  have q5 := blk_r HQW.out (i := 5) rfl
  have q6 := blk_r HQW.out (i := 6) rfl
  have q7 := blk_r HQW.out (i := 7) rfl
  refine wp_region_makers 14 (by kernel_rfl) (by kernel_rfl) (by kernel_rfl) ?_
  simp only [List.take_succ_cons, List.take_zero, List.drop_succ_cons, List.drop_zero]
  iterate 12
    refine qd_step (fun K hK => ?_)
    go_simp
    refine hK _ ?_
    clear hK K
  refine qd_maker (newBlock W #[.int .i64 0, .int .i64 0, .int .i64 0, .int .i64 0, .int .i64 0, .int .i64 0, .bool false, .string ⟨#[]⟩] 34) rfl rfl (newBlock_lasts _ _ _) (fun p => ?_) ?_
  · go_simp
    exact newBlock_alloc' _ _ _ _
  refine qd_step (fun K hK => ?_)
  go_simp
  refine hK _ ?_
  clear hK K
  intro us hus W1 hb1 hp
  obtain ⟨u, rfl⟩ : ∃ u, us = [u] := List.length_eq_one_iff.1 hus
  obtain ⟨⟨g, rfl, hg, hblk⟩, -⟩ := hp
  simp only [putAll, Act.put, List.setIfInBounds_toArray, List.set_cons_succ, List.set_cons_zero]
  clear q0 q1 q2 q3 q4 q5 q6 q7 r1 r3
  refine wpList_store_blk rfl 34 _ _ rfl g _ rfl rfl 34 _ hblk (by kernel_rfl) rfl (by simp [Value.oneCell']) ?_
  intro W2 hw2 hb2
  have HR : Hid (W2.heap[g]? = _) := hw2
  have hbA : Below w.heap.size w W2 := (hb0.trans (hb1.mono hb0.size)).trans (hb2.mono (Nat.le_trans hb0.size hg))
  have HF0 : Hid (W2.heap[w.heap.size]? = some (.cells #[.int .u8 0, .int .i64 0] 125)) := (hb2.block _ (by have := heap_lt hf0.out; omega)).trans ((hb1.block _ (heap_lt hf0.out)).trans hf0.out)
  have hgw : w.heap.size < g := by have := heap_lt hf0.out; omega
  clear hw2 hblk hb2 hb1 HQW hf0 hb0 hg
  have HQ2 : Hid (W2.heap[q]? = some (.cells #[.int .i64 rc, .int .i64 rm, .int .i64 kk, .int .i64 sh, .int .i64 0, .int .i64 0, .bool false, .string ⟨#[]⟩, .bool across, .int .i64 (-1), .bool false, .int .i64 mil] 121 (0, 0))) := (hbA.block q ltq).trans HQ.out
  have HB2 : Hid (BooksAt W2 b cpu mem ps fr) := HB.out.below hbA
  have HN2 : Hid (NodeAt W2 s m i b) := HN.out.below hbA
  have HC2 : Hid (W2.cell? ⟨c, 0, none⟩ = some (.int .i64 n0)) := (hbA.cell (p := ⟨c, 0, none⟩) ltc).trans HC.out
  have HC2f : Hid (W2.cell? ⟨c, 1, none⟩ = some (.int .u8 2)) := (hbA.cell (p := ⟨c, 1, none⟩) ltc).trans HCF.out
  have HC2c : Hid (W2.cell? ⟨c, 2, none⟩ = some (.int .i64 0)) := (hbA.cell (p := ⟨c, 2, none⟩) ltc).trans HCC.out
  have s10 := blk_c HQ2.out (Below.refl _ _) (i := 10) rfl
  have s10' : W2.cell? ⟨q, 10, none⟩ = some (.bool false) := s10
  clear s10
  go_upto_region 4 with fail
  have t23 := cell_regrown HB2.out.c23
  have t21 := cell_regrown HB2.out.c21
  have tm := cell_regrown HN2.out.mixp
  have tp := cell_regrown HN2.out.mix.2.2
  have tq := blk_r HQ2.out (i := 11) rfl
  clear s10'
  refine wp_region_quiet_list 26 (by kernel_rfl) (by kernel_rfl) (by kernel_rfl) ?_
  simp only [List.take_succ_cons, List.take_zero, List.drop_succ_cons, List.drop_zero]
  repeat (go_big_quiet_step (fail))
  refine wpQuiet_nil ?_
  intro W3 hb3
  clear t23 t21 tm tp tq
  have l2 := hbA.size
  have hbB : Below w.heap.size w W3 := hbA.trans (hb3.mono l2)
  go_wp2_with fail
  refine (beaten_late c i 0 n0 W3 ((hb3.cell (p := ⟨c, 0, none⟩) (cell_lt HC2.out)).trans HC2.out) ((hb3.cell (p := ⟨c, 1, none⟩) (cell_lt HC2f.out)).trans HC2f.out) ((hb3.cell (p := ⟨c, 2, none⟩) (cell_lt HC2c.out)).trans HC2c.out) hn0 hn1).mono ?_
  rintro e W4 ⟨rfl, hb4⟩
  have l3 := hb3.size
  have hb34 : Below W2.heap.size W2 W4 := hb3.trans (hb4.mono l3)
  have hbC : Below w.heap.size w W4 := hbA.trans (hb34.mono l2)
  have HF4 : Hid (W4.heap[w.heap.size]? = some (.cells #[.int .u8 0, .int .i64 0] 125 (0, 0))) := (hb34.block _ (heap_lt HF0.out)).trans HF0.out
  have c0 := blk_c HF4.out (Below.refl _ _) (i := 0) rfl
  have c1 := blk_c HF4.out (Below.refl _ _) (i := 1) rfl
  have f0 := blk_f HF4.out (Below.refl _ _) 0
  have f1 := blk_f HF4.out (Below.refl _ _) 1
  go_wp2_with fail
  refine bodyPost_ret (v := .tuple #[.agg #[.int .u8 3, .int .i64 0], .slice none 0 0]) (by simp [results, Tryz.results34, go_sem, c0, c1]) rfl ⟨rfl, ?_⟩
  exact (hbC.setCell (Nat.le_refl _) _).setCell (Nat.le_refl _) _

end Go.Proofs.Qxb6612460aGreatFmt
