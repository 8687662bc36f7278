import Derived.Test.Qxb6612460aGreatFmtTakingS
namespace Go.Proofs.Qxb6612460aGreatFmt
open Go.RowKit Go.Sort
attribute [local go_sem] Option.isNone_none Option.isNone_some
attribute [local go_sem] sUpon mUpon

theorem milliRT (cpu mem g sh : Int) (hs0 : 0 < sh) (w : World) (d : Nat) (os : Array Obj) :
    Calls Tryz.prog 49 #[.agg #[.int .i64 cpu, .int .i64 mem, .int .i64 g, .int .i64 sh, .int .i64 0, .int .i64 0, .bool false, .string ⟨#[]⟩]] (grow (redrawn w d) os) fun e w'' => e = .returned (.int .i64 sh) ∧ ∃ p : Regrown, w'' = grow (redrawn w p.d) p.os :=
  Calls.regrown_of (milliT cpu mem g sh hs0 _)
theorem askOfRT (cpu mem g sh : Int) (hs0 : 0 < sh) (w : World) (d : Nat) (os : Array Obj) :
    Calls Tryz.prog 48 #[.agg #[.int .i64 cpu, .int .i64 mem, .int .i64 g, .int .i64 sh, .int .i64 0, .int .i64 0, .bool false, .string ⟨#[]⟩]] (grow (redrawn w d) os) fun e w'' => e = .returned (.agg #[.int .i64 g, .int .i64 sh, .string ⟨#[]⟩]) ∧ ∃ p : Regrown, w'' = grow (redrawn w p.d) p.os := by
  have h := askOf cpu mem g sh (grow (redrawn w d) os)
  unfold milliOf at h
  rw [if_pos hs0] at h
  exact Calls.regrown_of h

set_option maxRecDepth 100000 in
set_option maxHeartbeats 1000000 in
theorem decidingS (s m : Nat) (rc rm sh : Int) (across : Bool) (w : World) (hs0 : 0 < sh) (hs1000 : sh < 1000) (hs : w.cell? ⟨s, 1, none⟩ = some (.pointer (some ⟨m, 0, none⟩))) (hm : MixAt w m) :
    Calls Tryz.prog 32 #[.pointer (some ⟨s, 0, none⟩), .agg #[.int .i64 rc, .int .i64 rm, .int .i64 1, .int .i64 sh, .int .i64 0, .int .i64 0, .bool false, .string ⟨#[]⟩, .bool across]] w fun e w' => e = .returned (.agg #[.int .i64 rc, .int .i64 rm, .int .i64 1, .int .i64 sh, .int .i64 0, .int .i64 0, .bool false, .string ⟨#[]⟩, .bool across, .int .i64 (-1), .bool false, .int .i64 sh]) ∧ Below w.heap.size w w' := by
  have hlt := cell_lt hs
  have hltm := cell_lt hm.1
  simp only at hlt hltm
  have hb0 : Below w.heap.size w (((w.alloc (.cells #[.int .i64 rc, .int .i64 rm, .int .i64 1, .int .i64 sh, .int .i64 0, .int .i64 0, .bool false, .string ⟨#[]⟩, .bool across] 104)).alloc (.cells #[.int .i64 0, .int .i64 0, .int .i64 0, .int .i64 0, .int .i64 0, .int .i64 0, .bool false, .string ⟨#[]⟩, .bool false, .int .i64 0, .bool false, .int .i64 0] 121)).alloc (.cells #[.int .i64 rc, .int .i64 rm, .int .i64 1, .int .i64 sh, .int .i64 0, .int .i64 0, .bool false, .string ⟨#[]⟩] 34)) := (((Below.refl _ _).alloc (Nat.le_refl _) _).alloc (by simp) _).alloc (by simp; omega) _
  have H2 : Hid ((((w.alloc (.cells #[.int .i64 rc, .int .i64 rm, .int .i64 1, .int .i64 sh, .int .i64 0, .int .i64 0, .bool false, .string ⟨#[]⟩, .bool across] 104)).alloc (.cells #[.int .i64 0, .int .i64 0, .int .i64 0, .int .i64 0, .int .i64 0, .int .i64 0, .bool false, .string ⟨#[]⟩, .bool false, .int .i64 0, .bool false, .int .i64 0] 121)).alloc (.cells #[.int .i64 rc, .int .i64 rm, .int .i64 1, .int .i64 sh, .int .i64 0, .int .i64 0, .bool false, .string ⟨#[]⟩] 34)).heap[w.heap.size + 1 + 1]? = some (.cells #[.int .i64 rc, .int .i64 rm, .int .i64 1, .int .i64 sh, .int .i64 0, .int .i64 0, .bool false, .string ⟨#[]⟩] 34)) := by
    show _ = _
    have := heap_alloc_new ((w.alloc (.cells #[.int .i64 rc, .int .i64 rm, .int .i64 1, .int .i64 sh, .int .i64 0, .int .i64 0, .bool false, .string ⟨#[]⟩, .bool across] 104)).alloc (.cells #[.int .i64 0, .int .i64 0, .int .i64 0, .int .i64 0, .int .i64 0, .int .i64 0, .bool false, .string ⟨#[]⟩, .bool false, .int .i64 0, .bool false, .int .i64 0] 121)) (.cells #[.int .i64 rc, .int .i64 rm, .int .i64 1, .int .i64 sh, .int .i64 0, .int .i64 0, .bool false, .string ⟨#[]⟩] 34)
    simpa using this
  have H1 : Hid ((((w.alloc (.cells #[.int .i64 rc, .int .i64 rm, .int .i64 1, .int .i64 sh, .int .i64 0, .int .i64 0, .bool false, .string ⟨#[]⟩, .bool across] 104)).alloc (.cells #[.int .i64 0, .int .i64 0, .int .i64 0, .int .i64 0, .int .i64 0, .int .i64 0, .bool false, .string ⟨#[]⟩, .bool false, .int .i64 0, .bool false, .int .i64 0] 121)).alloc (.cells #[.int .i64 rc, .int .i64 rm, .int .i64 1, .int .i64 sh, .int .i64 0, .int .i64 0, .bool false, .string ⟨#[]⟩] 34)).heap[w.heap.size + 1]? = some (.cells #[.int .i64 0, .int .i64 0, .int .i64 0, .int .i64 0, .int .i64 0, .int .i64 0, .bool false, .string ⟨#[]⟩, .bool false, .int .i64 0, .bool false, .int .i64 0] 121)) := by
    show _ = _
    rw [heap_alloc_old _ _ (by simp)]
    have := heap_alloc_new (w.alloc (.cells #[.int .i64 rc, .int .i64 rm, .int .i64 1, .int .i64 sh, .int .i64 0, .int .i64 0, .bool false, .string ⟨#[]⟩, .bool across] 104)) (.cells #[.int .i64 0, .int .i64 0, .int .i64 0, .int .i64 0, .int .i64 0, .int .i64 0, .bool false, .string ⟨#[]⟩, .bool false, .int .i64 0, .bool false, .int .i64 0] 121)
    simpa using this
  have H0 : Hid ((((w.alloc (.cells #[.int .i64 rc, .int .i64 rm, .int .i64 1, .int .i64 sh, .int .i64 0, .int .i64 0, .bool false, .string ⟨#[]⟩, .bool across] 104)).alloc (.cells #[.int .i64 0, .int .i64 0, .int .i64 0, .int .i64 0, .int .i64 0, .int .i64 0, .bool false, .string ⟨#[]⟩, .bool false, .int .i64 0, .bool false, .int .i64 0] 121)).alloc (.cells #[.int .i64 rc, .int .i64 rm, .int .i64 1, .int .i64 sh, .int .i64 0, .int .i64 0, .bool false, .string ⟨#[]⟩] 34)).heap[w.heap.size]? = some (.cells #[.int .i64 rc, .int .i64 rm, .int .i64 1, .int .i64 sh, .int .i64 0, .int .i64 0, .bool false, .string ⟨#[]⟩, .bool across] 104)) := by
    show _ = _
    rw [heap_alloc_old _ _ (by simp; omega), heap_alloc_old _ _ (by simp), heap_alloc_new]
  have d0 : ((1 : Int) == 0) = false := by decide
  go_enter Tryz.func32, Tryz.ntmps32
  go_wp2_with fail
  generalize hW : ((w.alloc (.cells #[.int .i64 rc, .int .i64 rm, .int .i64 1, .int .i64 sh, .int .i64 0, .int .i64 0, .bool false, .string ⟨#[]⟩, .bool across] 104)).alloc (.cells #[.int .i64 0, .int .i64 0, .int .i64 0, .int .i64 0, .int .i64 0, .int .i64 0, .bool false, .string ⟨#[]⟩, .bool false, .int .i64 0, .bool false, .int .i64 0] 121)).alloc (.cells #[.int .i64 rc, .int .i64 rm, .int .i64 1, .int .i64 sh, .int .i64 0, .int .i64 0, .bool false, .string ⟨#[]⟩] 34) = W at *
  have q0 := blk_r H0.out (i := 0) rfl
  have q1 := blk_r H0.out (i := 1) rfl
  have q2 := blk_r H0.out (i := 2) rfl
  have q3 := blk_r H0.out (i := 3) rfl
  have q4 := blk_r H0.out (i := 4) rfl
  have q5 := blk_r H0.out (i := 5) rfl
  have q6 := blk_r H0.out (i := 6) rfl
  have q7 := blk_r H0.out (i := 7) rfl
  have q8 := blk_r H0.out (i := 8) rfl
  have t0 := blk_r H2.out (i := 0) rfl
  have t1 := blk_r H2.out (i := 1) rfl
  have t2 := blk_r H2.out (i := 2) rfl
  have t3 := blk_r H2.out (i := 3) rfl
  have t4 := blk_r H2.out (i := 4) rfl
  have t5 := blk_r H2.out (i := 5) rfl
  have t6 := blk_r H2.out (i := 6) rfl
  have t7 := blk_r H2.out (i := 7) rfl
  have hmW : Hid (MixAt W m) := hm.below hb0
  have hs1 := cell_regrown ((hb0.cell (p := ⟨s, 1, none⟩) hlt).trans hs)
  have hm1 := cell_regrown hmW.out.1
  refine wp_region_quiet_list 28 (by kernel_rfl) (by kernel_rfl) (by kernel_rfl) ?_
  simp only [List.take_succ_cons, List.take_zero, List.drop_succ_cons, List.drop_zero]
  repeat (go_big_quiet_step (first | exact milliRT _ _ _ _ hs0 _ _ _ | exact askOfRT _ _ _ _ hs0 _ _ _ | exact shapeIndexR _ _ _ _ _ hmW.out _ _))
  refine wpQuiet_nil ?_
  intro w' hb
  clear q0 q1 q2 q3 q4 q5 q6 q7 q8 t0 t1 t2 t3 t4 t5 t6 t7 hs1 hm1
  refine wpList_store_blk rfl 121 _ _ rfl (w.heap.size + 1) _ rfl rfl 121 _ ((hb.block _ (heap_lt H1.out)).trans H1.out) (by kernel_rfl) rfl (by simp [Value.oneCell']) ?_
  intro W2 hw2 hb2
  have HB2 : Hid _ := hw2
  clear hw2
  go_wp2_with fail
  refine bodyPost_ret (results_cell_row Tryz.results32 _ W2 _ 121 _ (0, 0) _ rfl HB2.out Tryz.underlying121 rfl (by kernel_rfl)) rfl ⟨?_, (hb0.trans (hb.mono hb0.size)).trans (hb2.mono (Nat.le_succ _))⟩
  refine ret_val ?_
  first | rfl | (simp; done) | (simp; omega)

end Go.Proofs.Qxb6612460aGreatFmt
