import Derived.Test.Qxb6612460aGreatFmtMix
import Derived.Test.Qxb6612460aGreatFmtDecid
namespace Go.Proofs.Qxb6612460aGreatFmt
open Go.RowKit Go.Sort
attribute [local go_sem] Option.isNone_none Option.isNone_some
attribute [local go_sem] sUpon mUpon
attribute [local go_sem] Mix.isVal Mix.makes

/-- A shelf's node i is the books at b, its mix is empty. -/
structure NodeAt (w : World) (s m i b : Nat) : Prop where
  nodes : ∃ ng no n cap, w.cell? ⟨s, 0, none⟩ = some (.slice (some ⟨ng, no, none⟩) n cap) ∧ i < n ∧ w.cell? ⟨ng, no + i, none⟩ = some (.pointer (some ⟨b, 0, none⟩))
  mixp : w.cell? ⟨s, 1, none⟩ = some (.pointer (some ⟨m, 0, none⟩))
  mix : MixAt w m
theorem NodeAt.below {w w' : World} {s m i b : Nat} (h : NodeAt w s m i b) (hb : Below w.heap.size w w') : NodeAt w' s m i b where
  nodes := by
    obtain ⟨ng, no, n, cap, h1, h2, h3⟩ := h.nodes
    exact ⟨ng, no, n, cap, (hb.cell (cell_lt h1)).trans h1, h2, (hb.cell (cell_lt h3)).trans h3⟩
  mixp := (hb.cell (cell_lt h.mixp)).trans h.mixp
  mix := h.mix.below hb
/-- The cells of the decided request. -/
def decCells (rc rm : Int) (k : Nat) (across : Bool) : Array Value := #[.int .i64 rc, .int .i64 rm, .int .i64 k, .int .i64 0, .int .i64 0, .int .i64 0, .bool false, .string ⟨#[]⟩, .bool across, .int .i64 (-1), .bool false, .int .i64 (1000 * k)]

theorem allowsR (s : ByteArray) (w : World) (d : Nat) (os : Array Obj) :
    Calls Tryz.prog 42 #[.agg #[.string ⟨#[]⟩], .string s] (grow (redrawn w d) os) fun e w'' => e = .returned (.bool true) ∧ ∃ p : Regrown, w'' = grow (redrawn w p.d) p.os :=
  Calls.regrown_of (allows s _)
theorem mayHoldR (b : Nat) (cpu mem g cl ml whole free : Int) (w : World)
    (h0 : w.cell? ⟨b, 16, none⟩ = some (.int .i64 free)) (h1 : w.cell? ⟨b, 17, none⟩ = some (.int .i64 whole)) (h2 : w.cell? ⟨b, 18, none⟩ = some (.int .i64 cl)) (h3 : w.cell? ⟨b, 19, none⟩ = some (.int .i64 ml)) (d : Nat) (os : Array Obj) :
    Calls Tryz.prog 50 #[.pointer (some ⟨b, 16, none⟩), .agg #[.int .i64 cpu, .int .i64 mem, .int .i64 g, .int .i64 0, .int .i64 0, .int .i64 0, .bool false, .string ⟨#[]⟩], .int .i64 (-1)] (grow (redrawn w d) os) fun e w'' => e = .returned (.bool (mayB cpu mem g 0 cl ml whole free)) ∧ ∃ p : Regrown, w'' = grow (redrawn w p.d) p.os :=
  Calls.regrown_of (mayHold b cpu mem g 0 cl ml whole free _ (cell_regrown h0 d os) (cell_regrown h1 d os) (cell_regrown h2 d os) (cell_regrown h3 d os))

theorem owns_low {w : World} {B B' : Nat} {e : TypeId} {size : Nat} {v : Value} {n : Nat} {xs : List Value} (h : w.ownsRow B' e size v n xs) (hB : B ≤ B') : w.ownsRow B e size v n xs := by
  refine ⟨h.1, ?_⟩
  rcases h.2 with h | ⟨g', c', cur, e, hb, r⟩
  · exact .inl h
  · exact .inr ⟨g', c', cur, e, Nat.le_trans hB hb, r⟩
/-- What is known of the ids that pick gives. -/
def IdsAt (B : Nat) (ps : List (Nat × Bool)) (k : Nat) (one : Bool) (u : Value) (W : World) : Prop :=
  ∃ (g cap : Nat) (L : List Nat), u = .tuple #[.slice (some ⟨g, 0, none⟩) k cap, .bool true] ∧ W.ownsRow B 3 1 (.slice (some ⟨g, 0, none⟩) k cap) k (L.map natV) ∧ GrantedIds ps k one L
theorem idsAt_lasts (B : Nat) (ps : List (Nat × Bool)) (k : Nat) (one : Bool) (u : Value) : Lasts (IdsAt B ps k one u) := by
  rintro W W' hb ⟨g, cap, L, h1, h2, h3⟩
  exact ⟨g, cap, L, h1, owns_below h2 hb, h3⟩
theorem mayHoldB (b : Nat) (cpu mem g cl ml whole free : Int) (w : World)
    (h0 : w.cell? ⟨b, 16, none⟩ = some (.int .i64 free)) (h1 : w.cell? ⟨b, 17, none⟩ = some (.int .i64 whole)) (h2 : w.cell? ⟨b, 18, none⟩ = some (.int .i64 cl)) (h3 : w.cell? ⟨b, 19, none⟩ = some (.int .i64 ml)) (d : Nat) (os : Array Obj) (bv : Bool) (hv : mayB cpu mem g 0 cl ml whole free = bv) :
    Calls Tryz.prog 50 #[.pointer (some ⟨b, 16, none⟩), .agg #[.int .i64 cpu, .int .i64 mem, .int .i64 g, .int .i64 0, .int .i64 0, .int .i64 0, .bool false, .string ⟨#[]⟩], .int .i64 (-1)] (grow (redrawn w d) os) fun e w'' => e = .returned (.bool bv) ∧ ∃ p : Regrown, w'' = grow (redrawn w p.d) p.os := by
  subst hv
  exact mayHoldR b cpu mem g cl ml whole free w h0 h1 h2 h3 d os
theorem may_false {cpu mem rc rm : Int} {k : Nat} {across : Bool} {fr : List Nat} {x : Int} (h : mayB rc rm k 0 cpu mem (sumN fr : Nat) x = false) : ¬ Fits cpu mem rc rm k across fr := by
  rintro ⟨h1, h2, -⟩
  unfold mayB at h
  rw [if_neg h1, if_pos rfl] at h
  simp at h
  omega

/-- What the first try finds. -/
def TryPost (w : World) (cpu mem rc rm : Int) (k : Nat) (across : Bool) (ps : List (Nat × Bool)) (fr : List Nat) (e : Ending) (w' : World) : Prop :=
  Below w.heap.size w w' ∧
  ((Fits cpu mem rc rm k across fr ∧ ∃ (g cap : Nat) (L : List Nat), e = .returned (.tuple #[.agg #[.int .u8 2, .int .i64 0], .slice (some ⟨g, 0, none⟩) k cap]) ∧ w'.ownsRow w.heap.size 3 1 (.slice (some ⟨g, 0, none⟩) k cap) k (L.map natV) ∧ GrantedIds ps k (!across) L) ∨
   (¬ Fits cpu mem rc rm k across fr ∧ e = .returned (.tuple #[.agg #[.int .u8 1, .int .i64 0], .slice none 0 0])))

set_option maxRecDepth 100000 in
set_option maxHeartbeats 4000000 in
theorem try_first (s m i b q c : Nat) (cpu mem rc rm : Int) (k : Nat) (across : Bool) (ps : List (Nat × Bool)) (fr : List Nat) (w : World)
    (hN : NodeAt w s m i b) (hB : BooksAt w b cpu mem ps fr) (hq : w.heap[q]? = some (.cells (decCells rc rm k across) 121 (0, 0))) (hcn : w.cell? ⟨c, 0, none⟩ = some (.int .i64 (-1)))
    (hc0 : 0 ≤ cpu) (hc1 : cpu ≤ 9223372036854775807) (hm0 : 0 ≤ mem) (hm1 : mem ≤ 9223372036854775807) (hk2 : k ≤ 65536) (hfl : fr.length ≤ 65536) (hpl : ps.length ≤ 65536) (hF : FrOf ps fr) :
    Calls Tryz.prog 34 #[.pointer (some ⟨s, 0, none⟩), .int .i64 i, .pointer (some ⟨q, 0, none⟩), .pointer (some ⟨c, 0, none⟩), .int .i64 (-9223372036854775808)] w (TryPost w cpu mem rc rm k across ps fr) := by
  have HB : Hid (BooksAt w b cpu mem ps fr) := hB
  have HN : Hid (NodeAt w s m i b) := hN
  have HQ : Hid (w.heap[q]? = some (.cells #[.int .i64 rc, .int .i64 rm, .int .i64 k, .int .i64 0, .int .i64 0, .int .i64 0, .bool false, .string ⟨#[]⟩, .bool across, .int .i64 (-1), .bool false, .int .i64 (1000 * k)] 121 (0, 0))) := hq
  have HC : Hid _ := hcn
  obtain ⟨ng, no, n, cap, n1, n2, n3⟩ := hN.nodes
  have lts := cell_lt n1
  have ltn := cell_lt n3
  have ltb := cell_lt hB.c1
  have ltc := cell_lt hcn
  have ltq := heap_lt hq
  simp only at lts ltn ltb ltc
  clear hB hN hq hcn
  unfold TryPost
  go_enter Tryz.func34, Tryz.ntmps34
  go_upto_region 1 with fail
  have hb0 : Below w.heap.size w (w.alloc (.cells #[.int .u8 0, .int .i64 0] 125)) := below_alloc1 _ _
  have hf0 : Hid ((w.alloc (.cells #[.int .u8 0, .int .i64 0] 125)).heap[w.heap.size]? = some (.cells #[.int .u8 0, .int .i64 0] 125)) := heap_alloc_new w _
  generalize hW : w.alloc (.cells #[.int .u8 0, .int .i64 0] 125) = W at *
  have r1 := cell_regrown ((hb0.cell (p := ⟨s, 0, none⟩) lts).trans n1)
  have r3 := cell_regrown ((hb0.cell (p := ⟨ng, no + i, none⟩) ltn).trans n3)
  have HQW : Hid (W.heap[q]? = some (.cells #[.int .i64 rc, .int .i64 rm, .int .i64 k, .int .i64 0, .int .i64 0, .int .i64 0, .bool false, .string ⟨#[]⟩, .bool across, .int .i64 (-1), .bool false, .int .i64 (1000 * k)] 121 (0, 0))) := (hb0.block q ltq).trans HQ.out
  have q0 := blk_r HQW.out (i := 0) rfl
  have q1 := blk_r HQW.out (i := 1) rfl
  have q2 := blk_r HQW.out (i := 2) rfl
  have q3 := blk_r HQW.out (i := 3) rfl
  have q4 := blk_r HQW.out (i := 4) rfl
  have q5 := blk_r HQW.out (i := 5) rfl
  have q6 := blk_r HQW.out (i := 6) rfl
  have q7 := blk_r HQW.out (i := 7) rfl
  refine wp_region_makers 14 (by kernel_rfl) (by kernel_rfl) (by kernel_rfl) ?_
  simp only [List.take_succ_cons, List.take_zero, List.drop_succ_cons, List.drop_zero]
  iterate 12
    refine qd_step (fun K hK => ?_)
    go_simp
    refine hK _ ?_
    clear hK K
  refine qd_maker (newBlock W #[.int .i64 0, .int .i64 0, .int .i64 0, .int .i64 0, .int .i64 0, .int .i64 0, .bool false, .string ⟨#[]⟩] 34) rfl rfl (newBlock_lasts _ _ _) (fun p => ?_) ?_
  · go_simp
    exact newBlock_alloc' _ _ _ _
  refine qd_step (fun K hK => ?_)
  go_simp
  refine hK _ ?_
  clear hK K
  intro us hus W1 hb1 hp
  obtain ⟨u, rfl⟩ : ∃ u, us = [u] := List.length_eq_one_iff.1 hus
  obtain ⟨⟨g, rfl, hg, hblk⟩, -⟩ := hp
  simp only [putAll, Act.put, List.setIfInBounds_toArray, List.set_cons_succ, List.set_cons_zero]
  clear q0 q1 q2 q3 q4 q5 q6 q7 r1 r3
  refine wpList_store_blk rfl 34 _ _ rfl g _ rfl rfl 34 _ hblk (by kernel_rfl) rfl (by simp [Value.oneCell']) ?_
  intro W2 hw2 hb2
  have HR : Hid (W2.heap[g]? = _) := hw2
  have hbA : Below w.heap.size w W2 := (hb0.trans (hb1.mono hb0.size)).trans (hb2.mono (Nat.le_trans hb0.size hg))
  have HF0 : Hid (W2.heap[w.heap.size]? = some (.cells #[.int .u8 0, .int .i64 0] 125)) := (hb2.block _ (by have := heap_lt hf0.out; omega)).trans ((hb1.block _ (heap_lt hf0.out)).trans hf0.out)
  have hgw : w.heap.size < g := by have := heap_lt hf0.out; omega
  clear hw2 hblk hb2 hb1 HQW hf0 hb0 hg
  have HQ2 : Hid (W2.heap[q]? = some (.cells #[.int .i64 rc, .int .i64 rm, .int .i64 k, .int .i64 0, .int .i64 0, .int .i64 0, .bool false, .string ⟨#[]⟩, .bool across, .int .i64 (-1), .bool false, .int .i64 (1000 * k)] 121 (0, 0))) := (hbA.block q ltq).trans HQ.out
  have HB2 : Hid (BooksAt W2 b cpu mem ps fr) := HB.out.below hbA
  have HN2 : Hid (NodeAt W2 s m i b) := HN.out.below hbA
  have HC2 : Hid (W2.cell? ⟨c, 0, none⟩ = some (.int .i64 (-1))) := (hbA.cell (p := ⟨c, 0, none⟩) ltc).trans HC.out
  have s10 := blk_c HQ2.out (Below.refl _ _) (i := 10) rfl
  have s10' : W2.cell? ⟨q, 10, none⟩ = some (.bool false) := s10
  clear s10
  go_upto_region 4 with fail
  have t23 := cell_regrown HB2.out.c23
  have t21 := cell_regrown HB2.out.c21
  have tm := cell_regrown HN2.out.mixp
  have tp := cell_regrown HN2.out.mix.2.2
  have tq := blk_r HQ2.out (i := 11) rfl
  clear s10'
  refine wp_region_quiet_list 26 (by kernel_rfl) (by kernel_rfl) (by kernel_rfl) ?_
  simp only [List.take_succ_cons, List.take_zero, List.drop_succ_cons, List.drop_zero]
  repeat (go_big_quiet_step (fail))
  refine wpQuiet_nil ?_
  intro W3 hb3
  clear t23 t21 tm tp tq
  have l2 := hbA.size
  have hbB : Below w.heap.size w W3 := hbA.trans (hb3.mono l2)
  go_wp2_with fail
  refine (beaten_first c i 0 (-1) W3 ((hb3.cell (p := ⟨c, 0, none⟩) (cell_lt HC2.out)).trans HC2.out) (by omega)).mono ?_
  rintro e W4 ⟨rfl, hb4⟩
  have l3 := hb3.size
  have hb34 : Below W2.heap.size W2 W4 := hb3.trans (hb4.mono l3)
  have hbC : Below w.heap.size w W4 := hbA.trans (hb34.mono l2)
  have HR4 : Hid (W4.heap[g]? = some (.cells #[.int .i64 rc, .int .i64 rm, .int .i64 k, .int .i64 0, .int .i64 0, .int .i64 0, .bool false, .string ⟨#[]⟩] 34 (0, 0))) := (hb34.block g (heap_lt HR.out)).trans HR.out
  have HF4 : Hid (W4.heap[w.heap.size]? = some (.cells #[.int .u8 0, .int .i64 0] 125 (0, 0))) := (hb34.block _ (heap_lt HF0.out)).trans HF0.out
  have HQ4 : Hid (W4.heap[q]? = some (.cells #[.int .i64 rc, .int .i64 rm, .int .i64 k, .int .i64 0, .int .i64 0, .int .i64 0, .bool false, .string ⟨#[]⟩, .bool across, .int .i64 (-1), .bool false, .int .i64 (1000 * k)] 121 (0, 0))) := (hb34.block _ (heap_lt HQ2.out)).trans HQ2.out
  have HB4 : Hid (BooksAt W4 b cpu mem ps fr) := HB2.out.below hb34
  have HN4 : Hid (NodeAt W4 s m i b) := HN2.out.below hb34
  have HC4 : Hid (W4.cell? ⟨c, 0, none⟩ = some (.int .i64 (-1))) := (hb34.cell (p := ⟨c, 0, none⟩) (cell_lt HC2.out)).trans HC2.out
  clear hb34 hb4 hb3 hbA hbB HR HF0 HQ2 HB2 HN2 HC2
  go_upto_region 7 with fail
  obtain ⟨x16, c16⟩ := HB4.out.c16
  have q0 := blk_r HR4.out (i := 0) rfl
  have q1 := blk_r HR4.out (i := 1) rfl
  have q2 := blk_r HR4.out (i := 2) rfl
  have q3 := blk_r HR4.out (i := 3) rfl
  have q4 := blk_r HR4.out (i := 4) rfl
  have q5 := blk_r HR4.out (i := 5) rfl
  have q6 := blk_r HR4.out (i := 6) rfl
  have q7 := blk_r HR4.out (i := 7) rfl
  have y9 := blk_r HQ4.out (i := 9) rfl
  have y4 := cell_regrown HB4.out.c4
  have l4 := hbC.size
  have keep : ∀ W', Below W4.heap.size W4 W' → Hid (Below w.heap.size w W' ∧ W'.heap[g]? = some (.cells #[.int .i64 rc, .int .i64 rm, .int .i64 k, .int .i64 0, .int .i64 0, .int .i64 0, .bool false, .string ⟨#[]⟩] 34 (0, 0)) ∧ W'.heap[w.heap.size]? = some (.cells #[.int .u8 0, .int .i64 0] 125 (0, 0)) ∧ W'.heap[q]? = some (.cells #[.int .i64 rc, .int .i64 rm, .int .i64 k, .int .i64 0, .int .i64 0, .int .i64 0, .bool false, .string ⟨#[]⟩, .bool across, .int .i64 (-1), .bool false, .int .i64 (1000 * k)] 121 (0, 0)) ∧ BooksAt W' b cpu mem ps fr ∧ NodeAt W' s m i b ∧ W'.cell? ⟨c, 0, none⟩ = some (.int .i64 (-1))) := fun W' hb =>
    ⟨hbC.trans (hb.mono l4), (hb.block g (heap_lt HR4.out)).trans HR4.out, (hb.block _ (heap_lt HF4.out)).trans HF4.out, (hb.block _ (heap_lt HQ4.out)).trans HQ4.out, HB4.out.below hb, HN4.out.below hb, (hb.cell (p := ⟨c, 0, none⟩) (cell_lt HC4.out)).trans HC4.out⟩
  have KEEP : Hid _ := keep
  clear keep
  cases hmay : mayB rc rm k 0 cpu mem (sumN fr : Nat) x16 with
  | false =>
    have HNF : Hid (¬ Fits cpu mem rc rm k across fr) := may_false hmay
    have hM : ∀ d os, Calls Tryz.prog 50 #[.pointer (some ⟨b, 16, none⟩), .agg #[.int .i64 rc, .int .i64 rm, .int .i64 k, .int .i64 0, .int .i64 0, .int .i64 0, .bool false, .string ⟨#[]⟩], .int .i64 (-1)] (grow (redrawn W4 d) os) fun e w'' => e = .returned (.bool false) ∧ ∃ p : Regrown, w'' = grow (redrawn W4 p.d) p.os := fun d os => mayHoldB b rc rm k cpu mem (sumN fr : Nat) x16 W4 c16 HB4.out.c17 HB4.out.c18 HB4.out.c19 d os _ hmay
    have HM : Hid _ := hM
    clear hM hmay c16
    refine wp_region_quiet_list 21 (by kernel_rfl) (by kernel_rfl) (by kernel_rfl) ?_
    simp only [List.take_succ_cons, List.take_zero, List.drop_succ_cons, List.drop_zero]
    repeat (go_big_quiet_step (first | exact allowsR _ _ _ _ | exact HM.out _ _))
    refine wpQuiet_nil ?_
    intro W5 hb5
    clear q0 q1 q2 q3 q4 q5 q6 q7 y9 y4
    obtain ⟨hbD, -, hF5, -⟩ := (KEEP.out W5 hb5).out
    have c0 := blk_c hF5 (Below.refl _ _) (i := 0) rfl
    have c1 := blk_c hF5 (Below.refl _ _) (i := 1) rfl
    have f0 := blk_f hF5 (Below.refl _ _) 0
    have f1 := blk_f hF5 (Below.refl _ _) 1
    go_wp2_with fail
    refine bodyPost_ret (v := .tuple #[.agg #[.int .u8 1, .int .i64 0], .slice none 0 0]) (by simp [results, Tryz.results34, go_sem, c0, c1]) rfl ⟨?_, .inr ⟨HNF.out, rfl⟩⟩
    exact (hbD.setCell (Nat.le_refl _) _).setCell (Nat.le_refl _) _
  | true =>
    have hM : ∀ d os, Calls Tryz.prog 50 #[.pointer (some ⟨b, 16, none⟩), .agg #[.int .i64 rc, .int .i64 rm, .int .i64 k, .int .i64 0, .int .i64 0, .int .i64 0, .bool false, .string ⟨#[]⟩], .int .i64 (-1)] (grow (redrawn W4 d) os) fun e w'' => e = .returned (.bool true) ∧ ∃ p : Regrown, w'' = grow (redrawn W4 p.d) p.os := fun d os => mayHoldB b rc rm k cpu mem (sumN fr : Nat) x16 W4 c16 HB4.out.c17 HB4.out.c18 HB4.out.c19 d os _ hmay
    have HM : Hid _ := hM
    clear hM hmay c16
    refine wp_region_quiet_list 21 (by kernel_rfl) (by kernel_rfl) (by kernel_rfl) ?_
    simp only [List.take_succ_cons, List.take_zero, List.drop_succ_cons, List.drop_zero]
    repeat (go_big_quiet_step (first | exact allowsR _ _ _ _ | exact HM.out _ _))
    refine wpQuiet_nil ?_
    intro W5 hb5
    clear q0 q1 q2 q3 q4 q5 q6 q7 y9 y4
    have KP := KEEP.out W5 hb5
    clear HM KEEP HR4 HF4 HQ4 HB4 HN4 HC4 hbC hb5
    go_upto_region 9 with fail
    have KR : Hid (W5.heap[g]? = _) := KP.out.2.1
    have KQ : Hid (W5.heap[q]? = _) := KP.out.2.2.2.1
    have KB : Hid (BooksAt W5 b cpu mem ps fr) := KP.out.2.2.2.2.1
    have q0 := blk_r KR.out (i := 0) rfl
    have q1 := blk_r KR.out (i := 1) rfl
    have q2 := blk_r KR.out (i := 2) rfl
    have q3 := blk_r KR.out (i := 3) rfl
    have q4 := blk_r KR.out (i := 4) rfl
    have q5 := blk_r KR.out (i := 5) rfl
    have q6 := blk_r KR.out (i := 6) rfl
    have q7 := blk_r KR.out (i := 7) rfl
    have y8 := blk_r KQ.out (i := 8) rfl
    by_cases hfit : Fits cpu mem rc rm k across fr
    · have HFT : Hid _ := hfit
      refine Mix.wp_region_mix (Mix.mkKd [(7, .mk (fun u => ∃ g cap : Nat, u = .tuple #[.slice (some ⟨g, 0, none⟩) k cap, .bool true]) (IdsAt w.heap.size ps k (!across)) []), (8, .pur), (9, .pur), (10, .pur), (11, .pur), (12, .pur)]) (by kernel_rfl) (by kernel_rfl) (Mix.makers_of ?_) ?_
      · intro p hp
        simp only [List.mem_cons, List.not_mem_nil, or_false] at hp
        rcases hp with rfl | rfl | rfl | rfl | rfl | rfl
        · exact ⟨idsAt_lasts _ _ _ _, _, _, rfl, rfl, by simp⟩
        all_goals trivial
      iterate 7
        refine Mix.x_det rfl (fun K hK => ?_)
        go_simp
        refine hK _ ?_
        clear hK K
      refine Mix.x_mk _ _ _ rfl rfl (.tuple #[.slice (some ⟨0, 0, none⟩) k 0, .bool true]) ⟨_, _, rfl⟩ (fun p _ => ?_) ?_
      · go_simp
        refine (pick_yes b cpu mem rc rm k across ps fr _ (KB.out.below (below_regrown _ _ _)) hc0 hc1 hm0 hm1 hk2 hfl hpl hF HFT.out).mono ?_
        rintro e w'' ⟨⟨g', cap', L, rfl, hown, hgr⟩, hbe⟩
        exact ⟨_, rfl, by simpa using hbe, ⟨_, _, rfl⟩, _, _, _, rfl, owns_low hown (Nat.le_trans KP.out.1.size (below_regrown W5 p.d p.os).size), hgr⟩
      rintro u ⟨g', cap', rfl⟩
      iterate 5
        refine Mix.x_pur rfl (fun K hK => ?_)
        go_simp
        refine hK _ ?_
        clear hK K
      intro W6 hW6
      obtain ⟨hb6, hk6⟩ := hW6
      obtain ⟨g2, cap2, L, he, hown, hgr⟩ := hk6 7 _ _ _ _ rfl rfl rfl
      have he' : Value.tuple #[.slice (some ⟨g', 0, none⟩) k cap', .bool true] = .tuple #[.slice (some ⟨g2, 0, none⟩) k cap2, .bool true] := he
      obtain ⟨rfl, rfl⟩ : g' = g2 ∧ cap' = cap2 := by simpa using he'
      clear he he' hk6 q0 q1 q2 q3 q4 q5 q6 q7 y8
      have HOW : Hid _ := hown
      have HGR : Hid _ := hgr
      obtain ⟨k1, k2, k3, k4, k5, k6, k7⟩ := KP.out
      have k1' := k1.size
      have hbE : Below w.heap.size w W6 := k1.trans (hb6.mono k1')
      have hR6 := (hb6.block g (heap_lt k2)).trans k2
      have HF6 : Hid _ := (hb6.block _ (heap_lt k3)).trans k3
      have HB6 : Hid _ := k5.below hb6
      have HN6 : Hid _ := k6.below hb6
      have hC6 := (hb6.cell (p := ⟨c, 0, none⟩) (cell_lt k7)).trans k7
      clear k1 k2 k3 k4 k5 k6 k7 hown hgr KP KR KQ KB hb6
      have z0 := blk_c hR6 (Below.refl _ _) (i := 0) rfl
      have z1 := blk_c hR6 (Below.refl _ _) (i := 1) rfl
      have z2 := blk_c hR6 (Below.refl _ _) (i := 2) rfl
      have z3 := blk_c hR6 (Below.refl _ _) (i := 3) rfl
      have z4 := blk_c hR6 (Below.refl _ _) (i := 4) rfl
      have z5 := blk_c hR6 (Below.refl _ _) (i := 5) rfl
      have z6 := blk_c hR6 (Below.refl _ _) (i := 6) rfl
      have z7 := blk_c hR6 (Below.refl _ _) (i := 7) rfl
      clear hR6
      show Exit.then _ _ _ _ _
      go_wp2_with fail
      obtain ⟨x16', c16'⟩ := HB6.out.c16
      refine (taking0 b rc rm k k _ _ x16' _ _ _ W6 hk2 c16' HB6.out.c17 HB6.out.c18 HB6.out.c19).mono ?_
      rintro e W7 ⟨xx, yy, cc, mm, rfl, hb7⟩
      clear z0 z1 z2 z3 z4 z5 z6 z7 hC6 c16'
      have HOW7 : Hid _ := owns_below HOW.out hb7
      have HF7 : Hid _ := (hb7.block _ (heap_lt HF6.out)).trans HF6.out
      have HB7 : Hid _ := HB6.out.below hb7
      have HN7 : Hid _ := HN6.out.below hb7
      have hbF : Below w.heap.size w W7 := hbE.trans (hb7.mono hbE.size)
      clear hb7 hbE HB6 HN6 HF6 HOW
      unfold takV
      go_upto_region 20 with fail
      have hb8 : Below W7.heap.size W7 (W7.alloc (.cells #[.pointer (some ⟨b, 0, none⟩), .int .i64 rc, .int .i64 rm, .int .i64 k, .int .i64 0, .int .i64 0, .int .i64 0, .bool false, .string ⟨#[]⟩, .slice (some ⟨g', 0, none⟩) k cap', .int .i64 xx, .int .i64 yy, .int .i64 cc, .int .i64 mm, .slice none 0 0, .int .i64 0, .bool false, .int .i64 0] 171 (0, 0))) := below_alloc1 _ _
      have hT8 : Hid ((W7.alloc (.cells #[.pointer (some ⟨b, 0, none⟩), .int .i64 rc, .int .i64 rm, .int .i64 k, .int .i64 0, .int .i64 0, .int .i64 0, .bool false, .string ⟨#[]⟩, .slice (some ⟨g', 0, none⟩) k cap', .int .i64 xx, .int .i64 yy, .int .i64 cc, .int .i64 mm, .slice none 0 0, .int .i64 0, .bool false, .int .i64 0] 171 (0, 0))).heap[W7.heap.size]? = some (.cells #[.pointer (some ⟨b, 0, none⟩), .int .i64 rc, .int .i64 rm, .int .i64 k, .int .i64 0, .int .i64 0, .int .i64 0, .bool false, .string ⟨#[]⟩, .slice (some ⟨g', 0, none⟩) k cap', .int .i64 xx, .int .i64 yy, .int .i64 cc, .int .i64 mm, .slice none 0 0, .int .i64 0, .bool false, .int .i64 0] 171 (0, 0))) := heap_alloc_new W7 _
      generalize hW8 : W7.alloc (.cells #[.pointer (some ⟨b, 0, none⟩), .int .i64 rc, .int .i64 rm, .int .i64 k, .int .i64 0, .int .i64 0, .int .i64 0, .bool false, .string ⟨#[]⟩, .slice (some ⟨g', 0, none⟩) k cap', .int .i64 xx, .int .i64 yy, .int .i64 cc, .int .i64 mm, .slice none 0 0, .int .i64 0, .bool false, .int .i64 0] 171 (0, 0)) = W8 at *
      clear hW8
      have HOW8 : Hid _ := owns_below HOW7.out hb8
      have hF8 := (hb8.block _ (heap_lt HF7.out)).trans HF7.out
      have c23 := (HB7.out.below hb8).c23
      have HN8 : Hid _ := HN7.out.below hb8
      have m1 := HN8.out.mixp
      have hbG : Below w.heap.size w W8 := hbF.trans (hb8.mono hbF.size)
      have t10 := blk_c hT8.out (Below.refl _ _) (i := 10) rfl
      clear hb8 hbF HB7 HN7 HF7 HOW7
      have c0 := blk_c hF8 (Below.refl _ _) (i := 0) rfl
      have c1 := blk_c hF8 (Below.refl _ _) (i := 1) rfl
      have f0 := blk_f hF8 (Below.refl _ _) 0
      have f1 := blk_f hF8 (Below.refl _ _) 1
      go_wp2_with fail
      refine (leastStranded0 m W7.heap.size _ _ W8 HN8.out.mix t10).mono ?_
      rintro e W9 ⟨rfl, rfl⟩
      go_wp2_with fail
      refine bodyPost_ret (v := .tuple #[.agg #[.int .u8 2, .int .i64 0], .slice (some ⟨g', 0, none⟩) k cap']) (by simp [results, Tryz.results34, go_sem, c0, c1]) rfl ⟨?_, .inl ⟨HFT.out, g', cap', L, rfl, ?_, HGR.out⟩⟩
      · exact (hbG.setCell (Nat.le_refl _) _).setCell (Nat.le_refl _) _
      · refine ownsRow_same HOW8.out (fun q hq => ?_)
        have hne : q ≠ w.heap.size := by
          have h1 := ownsRow_lt HOW8.out q hq
          intro e
          subst e
          obtain rfl : g' = w.heap.size := by simpa [Value.ownBlock] using hq
          obtain ⟨-, h | ⟨gg, cc', cur, e1, e2, e3, -⟩⟩ := HOW8.out
          · cases h.1
          · cases e1
            rw [hF8] at e3
            cases e3
        rw [Below.heap_setCell _ _ _ _ hne, Below.heap_setCell _ _ _ _ hne]
    · have HFT : Hid _ := hfit
      refine Mix.wp_region_mix (Mix.mkKd [(7, .mk (fun u => u = .tuple #[.slice none 0 0, .bool false]) (fun _ _ => True) []), (8, .pur), (9, .pur), (10, .pur), (11, .pur), (12, .pur)]) (by kernel_rfl) (by kernel_rfl) (Mix.makers_of ?_) ?_
      · intro p hp
        simp only [List.mem_cons, List.not_mem_nil, or_false] at hp
        rcases hp with rfl | rfl | rfl | rfl | rfl | rfl
        · exact ⟨fun _ _ _ _ _ => trivial, _, _, rfl, rfl, by simp⟩
        all_goals trivial
      iterate 7
        refine Mix.x_det rfl (fun K hK => ?_)
        go_simp
        refine hK _ ?_
        clear hK K
      refine Mix.x_mk _ _ _ rfl rfl (.tuple #[.slice none 0 0, .bool false]) rfl (fun p _ => ?_) ?_
      · go_simp
        refine (pick_no b cpu mem rc rm k across ps fr _ (KB.out.below (below_regrown _ _ _)) hc0 hc1 hm0 hm1 hfl HFT.out).mono ?_
        rintro e w'' ⟨rfl, hbe⟩
        simpa using hbe
      rintro u rfl
      iterate 5
        refine Mix.x_pur rfl (fun K hK => ?_)
        go_simp
        refine hK _ ?_
        clear hK K
      intro W6 hW6
      obtain ⟨hb6, -⟩ := hW6
      clear q0 q1 q2 q3 q4 q5 q6 q7 y8
      obtain ⟨k1, k2, k3, k4, k5, k6, k7⟩ := KP.out
      have hbE : Below w.heap.size w W6 := k1.trans (hb6.mono k1.size)
      have hF6 := (hb6.block _ (heap_lt k3)).trans k3
      clear k1 k2 k3 k4 k5 k6 k7 KP KR KQ KB hb6
      have c0 := blk_c hF6 (Below.refl _ _) (i := 0) rfl
      have c1 := blk_c hF6 (Below.refl _ _) (i := 1) rfl
      have f0 := blk_f hF6 (Below.refl _ _) 0
      have f1 := blk_f hF6 (Below.refl _ _) 1
      show Exit.then _ _ _ _ _
      go_wp2_with fail
      refine bodyPost_ret (v := .tuple #[.agg #[.int .u8 1, .int .i64 0], .slice none 0 0]) (by simp [results, Tryz.results34, go_sem, c0, c1]) rfl ⟨?_, .inr ⟨HFT.out, rfl⟩⟩
      exact (hbE.setCell (Nat.le_refl _) _).setCell (Nat.le_refl _) _

end Go.Proofs.Qxb6612460aGreatFmt
