import Derived.Test.Qxb6612460aGreatFmtSmall
import Derived.Test.Qxb6612460aGreatFmtQuiet
namespace Go.Proofs.Qxb6612460aGreatFmt
open Go.RowKit Go.Sort

theorem milliR (cpu mem g sh : Int) (w : World) (d : Nat) (os : Array Obj) :
    Calls Tryz.prog 49 #[.agg #[.int .i64 cpu, .int .i64 mem, .int .i64 g, .int .i64 sh, .int .i64 0, .int .i64 0, .bool false, .string ⟨#[]⟩]] (grow (redrawn w d) os) fun e w'' => e = .returned (.int .i64 (milliOf sh)) ∧ ∃ p : Regrown, w'' = grow (redrawn w p.d) p.os :=
  Calls.regrown_of (milli cpu mem g sh _)

/-- The cells of a block, in every world of the class. -/
theorem blk_r {W : World} {b : Nat} {cs : Array Value} {t : TypeId} (h : W.heap[b]? = some (.cells cs t (0, 0))) {i : Nat} {v : Value} (hv : cs[i]? = some v) (d : Nat) (os : Array Obj) : (grow (redrawn W d) os).cell? ⟨b, i, none⟩ = some v :=
  cell_regrown ((cell_of_row W b i cs t (0, 0) h).trans hv) d os
theorem blk_c {W W' : World} {b : Nat} {cs : Array Value} {t : TypeId} (h : W.heap[b]? = some (.cells cs t (0, 0))) (hb : Below W.heap.size W W') {i : Nat} {v : Value} (hv : cs[i]? = some v) : W'.cell? ⟨b, i, none⟩ = some v :=
  (cell_of_row W' b i cs t (0, 0) ((hb.block b (heap_lt h)).trans h)).trans hv
theorem blk_f {W W' : World} {b : Nat} {cs : Array Value} {t : TypeId} (h : W.heap[b]? = some (.cells cs t (0, 0))) (hb : Below W.heap.size W W') (i : Nat) : W'.frozen? ⟨b, i, none⟩ = false :=
  frozen_of_row W' b i cs t ((hb.block b (heap_lt h)).trans h)

set_option maxRecDepth 100000 in
set_option maxHeartbeats 400000 in
theorem askOf (cpu mem g sh : Int) (w : World) :
    Calls Tryz.prog 48 #[reqV cpu mem g sh] w fun e w' => e = .returned (.agg #[.int .i64 g, .int .i64 (milliOf sh), .string ⟨#[]⟩]) ∧ Below w.heap.size w w' := by
  unfold reqV
  have hb0 : Below w.heap.size w ((w.alloc (.cells #[.int .i64 cpu, .int .i64 mem, .int .i64 g, .int .i64 sh, .int .i64 0, .int .i64 0, .bool false, .string ⟨#[]⟩] 34)).alloc (.cells #[.int .i64 0, .int .i64 0,   .string ⟨#[]⟩] 145)) := ((Below.refl _ _).alloc (Nat.le_refl _) _).alloc (by simp) _
  have h1 := heap_alloc2_new w (.cells #[.int .i64 cpu, .int .i64 mem, .int .i64 g, .int .i64 sh, .int .i64 0, .int .i64 0, .bool false, .string ⟨#[]⟩] 34) (.cells #[.int .i64 0, .int .i64 0,   .string ⟨#[]⟩] 145)
  have h0 : ((w.alloc (.cells #[.int .i64 cpu, .int .i64 mem, .int .i64 g, .int .i64 sh, .int .i64 0, .int .i64 0, .bool false, .string ⟨#[]⟩] 34)).alloc (.cells #[.int .i64 0, .int .i64 0,   .string ⟨#[]⟩] 145)).heap[w.heap.size]? = some (.cells #[.int .i64 cpu, .int .i64 mem, .int .i64 g, .int .i64 sh, .int .i64 0, .int .i64 0, .bool false, .string ⟨#[]⟩] 34) := by
    rw [heap_alloc_old _ _ (by simp), heap_alloc_new]
  have H0 : Hid _ := h0
  have H1 : Hid _ := h1
  clear h0 h1
  go_enter Tryz.func48, Tryz.ntmps48
  go_wp2_with fail
  generalize hW : (w.alloc (.cells #[.int .i64 cpu, .int .i64 mem, .int .i64 g, .int .i64 sh, .int .i64 0, .int .i64 0, .bool false, .string ⟨#[]⟩] 34)).alloc (.cells #[.int .i64 0, .int .i64 0, .string ⟨#[]⟩] 145) = W at *
  have q0 := blk_r H0.out (i := 0) rfl
  have q1 := blk_r H0.out (i := 1) rfl
  have q2 := blk_r H0.out (i := 2) rfl
  have q3 := blk_r H0.out (i := 3) rfl
  have q4 := blk_r H0.out (i := 4) rfl
  have q5 := blk_r H0.out (i := 5) rfl
  have q6 := blk_r H0.out (i := 6) rfl
  have q7 := blk_r H0.out (i := 7) rfl
  refine wp_region_quiet_list 7 (by kernel_rfl) (by kernel_rfl) (by kernel_rfl) ?_
  simp only [List.take_succ_cons, List.take_zero, List.drop_succ_cons, List.drop_zero]
  repeat (go_big_quiet_step (exact milliR _ _ _ _ _ _ _))
  refine wpQuiet_nil ?_
  intro w' hb
  have c0 := blk_c H1.out hb (i := 0) rfl
  have c1 := blk_c H1.out hb (i := 1) rfl
  have c2 := blk_c H1.out hb (i := 2) rfl
  have f0 := blk_f H1.out hb 0
  have f1 := blk_f H1.out hb 1
  have f2 := blk_f H1.out hb 2
  clear q0 q1 q2 q3 q4 q5 q6 q7
  go_wp2_with fail
  have hbb : Below w.heap.size w w' := hb0.trans (hb.mono hb0.size)
  refine bodyPost_ret (v := .agg #[.int .i64 g, .int .i64 (milliOf sh), .string ⟨#[]⟩]) (by simp [results, Tryz.results48, go_sem, c0, c1, c2]) rfl ⟨rfl, ?_⟩
  exact ((hbb.setCell (Nat.le_succ _) _).setCell (Nat.le_succ _) _).setCell (Nat.le_succ _) _

set_option maxRecDepth 100000 in
theorem stranded0 (m s : Nat) (x : Int) (w : World) (hm : MixAt w m) (hs : w.cell? ⟨s, 16, none⟩ = some (.int .i64 x)) :
    Calls Tryz.prog 29 #[.pointer (some ⟨m, 0, none⟩), .pointer (some ⟨s, 16, none⟩)] w fun e w' => e = .returned (.int .i64 0) ∧ w = w' := by
  obtain ⟨h0, _, _⟩ := hm
  by_cases hx : x = 0
  · subst hx
    go_enter Tryz.func29, Tryz.ntmps29
    go_wp2_with fail
    go_ret
    exact ⟨rfl, rfl⟩
  · have hx' : (x == 0) = false := by simp [hx]
    go_enter Tryz.func29, Tryz.ntmps29
    go_wp2_with fail
    go_loop [5, 18] (fun t i => t = .int .i64 0 ∧ i = .int .i64 0) (fun _ _ => 0)
    case atStart => exact ⟨rfl, rfl⟩
    case round =>
      obtain ⟨rfl, rfl⟩ := hrel
      go_wp2_with fail
      go_ret
      exact ⟨rfl, rfl⟩

set_option maxRecDepth 100000 in
theorem leastStranded0 (m t : Nat) (x c : Int) (w : World) (hm : MixAt w m) (hs : w.cell? ⟨t, 10, none⟩ = some (.int .i64 x)) :
    Calls Tryz.prog 52 #[.pointer (some ⟨m, 0, none⟩), .pointer (some ⟨t, 0, none⟩), .int .i64 c] w fun e w' => e = .returned (.tuple #[.int .i64 0, .bool true]) ∧ w = w' := by
  obtain ⟨_, h1, _⟩ := hm
  by_cases hx : x = 0
  · subst hx
    go_enter Tryz.func52, Tryz.ntmps52
    go_wp2_with fail
    go_ret2
    exact ⟨rfl, rfl⟩
  · have hx' : (x == 0) = false := by simp [hx]
    go_enter Tryz.func52, Tryz.ntmps52
    go_wp2_with fail
    go_loop [8, 9, 26] (fun t b i => t = .int .i64 0 ∧ b = .bool true ∧ i = .int .i64 0) (fun _ _ _ => 0)
    case atStart => exact ⟨rfl, rfl, rfl⟩
    case round =>
      obtain ⟨rfl, rfl, rfl⟩ := hrel
      go_wp2_with fail
      go_ret2
      exact ⟨rfl, rfl⟩

/-- The books' stand says: hold it or not. -/
def mayB (cpu mem : Int) (g : Int) (sh : Int) (cl ml : Int) (whole free : Int) : Bool :=
  if cl < cpu ∨ ml < mem then false else if sh = 0 then decide (g ≤ whole) else decide (sh ≤ free)

set_option maxRecDepth 100000 in
set_option maxHeartbeats 400000 in
theorem mayHold (b : Nat) (cpu mem g sh cl ml whole free : Int) (w : World)
    (h0 : w.cell? ⟨b, 16, none⟩ = some (.int .i64 free)) (h1 : w.cell? ⟨b, 17, none⟩ = some (.int .i64 whole)) (h2 : w.cell? ⟨b, 18, none⟩ = some (.int .i64 cl)) (h3 : w.cell? ⟨b, 19, none⟩ = some (.int .i64 ml)) :
    Calls Tryz.prog 50 #[.pointer (some ⟨b, 16, none⟩), reqV cpu mem g sh, .int .i64 (-1)] w fun e w' => e = .returned (.bool (mayB cpu mem g sh cl ml whole free)) ∧ Below w.heap.size w w' := by
  have hlt := cell_lt h0
  simp only at hlt
  unfold reqV mayB
  by_cases a1 : cl < cpu
  · rw [if_pos (.inl a1)]
    have d1 : decide (cl < cpu) = true := by simp [a1]
    go_enter Tryz.func50, Tryz.ntmps50
    go_wp2_with fail
    go_quiet (fail)
    go_wp2_with fail
    go_ret
    exact ⟨rfl, below_drewN ((Below.refl _ _).alloc (Nat.le_refl _) _) _⟩
  have d1 : decide (cl < cpu) = false := by simp [a1]
  by_cases a2 : ml < mem
  · rw [if_pos (.inr a2)]
    have d2 : decide (ml < mem) = true := by simp [a2]
    go_enter Tryz.func50, Tryz.ntmps50
    go_wp2_with fail
    go_quiet (fail)
    go_wp2_with fail
    go_ret
    exact ⟨rfl, below_drewN ((Below.refl _ _).alloc (Nat.le_refl _) _) _⟩
  have d2 : decide (ml < mem) = false := by simp [a2]
  rw [if_neg (fun h => h.elim a1 a2)]
  by_cases a3 : sh = 0
  · subst a3
    rw [if_pos rfl]
    go_enter Tryz.func50, Tryz.ntmps50
    go_wp2_with fail
    go_quiet (fail)
    go_wp2_with fail
    go_quiet (fail)
    go_wp2_with fail
    go_ret
    refine ⟨rfl, ?_⟩
    exact below_drewN (below_drewN ((Below.refl _ _).alloc (Nat.le_refl _) _) _) _
  · rw [if_neg a3]
    have d3 : (sh == 0) = false := by simp [a3]
    go_enter Tryz.func50, Tryz.ntmps50
    go_wp2_with fail
    go_quiet (fail)
    go_wp2_with fail
    go_quiet (fail)
    go_wp2_with fail
    go_ret
    refine ⟨rfl, ?_⟩
    exact below_drewN (below_drewN ((Below.refl _ _).alloc (Nat.le_refl _) _) _) _

end Go.Proofs.Qxb6612460aGreatFmt
