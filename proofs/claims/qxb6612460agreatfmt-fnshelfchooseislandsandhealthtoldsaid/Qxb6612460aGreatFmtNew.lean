import Derived.Test.Qxb6612460aGreatFmtNewQ
namespace Go.Proofs.Qxb6612460aGreatFmt
open Go.RowKit Go.Sort
attribute [local go_sem] Option.isNone_none Option.isNone_some
attribute [local go_sem] sUpon mUpon
attribute [local go_sem] Mix.isVal Mix.makes

set_option maxRecDepth 1000000 in
set_option maxHeartbeats 8000000 in
theorem newLedger1 (nb nc : Nat) (cpu mem : Int) (da : Option Addr) (dc : Nat) (ds : List (ByteArray × Bool)) (w : World)
    (n0 : w.cell? ⟨nb, 0, none⟩ = some (.string ⟨#[]⟩)) (n1 : w.cell? ⟨nb, 1, none⟩ = some (.int .i64 cpu)) (n2 : w.cell? ⟨nb, 2, none⟩ = some (.int .i64 mem)) (n3 : w.cell? ⟨nb, 3, none⟩ = some (.int .i64 (ds.length : Nat))) (n4 : w.cell? ⟨nb, 4, none⟩ = some (.string ⟨#[]⟩)) (n5 : w.cell? ⟨nb, 5, none⟩ = some (.slice da ds.length dc))
    (hD : DevsIn w da dc ds) (hn : ds.length ≤ 65536) (hc0 : 0 ≤ cpu) (hc1 : cpu ≤ 9223372036854775807) (hm0 : 0 ≤ mem) (hm1 : mem ≤ 9223372036854775807) :
    Calls Tryz.prog 9 #[.slice (some ⟨nb, 0, none⟩) 1 nc] w (NewPost w cpu mem ds) := by
  have HD : Hid (DevsIn w da dc ds) := hD
  have HP : Hid (∀ e w', NewPost w cpu mem ds e w' → NewPost w cpu mem ds e w') := fun _ _ h => h
  clear hD
  have ltn := cell_lt n0
  simp only at ltn
  obtain ⟨i71, hi71, hz71, hs71, hb71⟩ := info_parts Tryz.info71
  have hmm := @run_makeMap Tryz.prog
  go_enter Tryz.func9, Tryz.ntmps9
  go_wp2_with (at_make; go_must (refine wpList_make_full _ rfl _ _ 51 rfl w.heap.size 71 i71 (.pointer none) 1 Tryz.underlying51 hi71 hz71 hs71 .i64 .i64 _ _ 1 rfl rfl rfl rfl (by rw [hb71]; omega) (by unfold maxLen; omega) (Nat.le_refl _) ?_); intro w1 hown1 hgrow1)
  have hbA : Below w.heap.size w w1 := (Below.refl _ _).grown hgrow1 (Nat.le_refl _) (fun k h => by cases h)
  have hbB : Below w1.heap.size w1 (((w1.alloc (.cells #[.slice none 0 0, .slice none 0 0, .int .i64 0] 55)).alloc (.cells #[.slice (some ⟨w.heap.size, 0, none⟩) 1 1, .pointer (some ⟨w1.heap.size, 0, none⟩), .slice none 0 0, .slice none 0 0] 58)).alloc (.map #[] 0)) := ((below_alloc1 _ _).alloc (by simp) _).alloc (by simp; omega) _
  have HOW1 : Hid (w1.ownsRow w.heap.size 71 1 (.slice (some ⟨w.heap.size, 0, none⟩) 1 1) 1 [.pointer none]) := by
    have e : (madeCells (Value.pointer none).cells (1 * 1)).toList = [.pointer none] := by
      rw [Nat.mul_one]
      exact toList_madeCells_one _ _
    rw [← e]; exact hown1
  have HMX : Hid ((((w1.alloc (.cells #[.slice none 0 0, .slice none 0 0, .int .i64 0] 55)).alloc (.cells #[.slice (some ⟨w.heap.size, 0, none⟩) 1 1, .pointer (some ⟨w1.heap.size, 0, none⟩), .slice none 0 0, .slice none 0 0] 58)).alloc (.map #[] 0)).heap[w1.heap.size]? = some (.cells #[.slice none 0 0, .slice none 0 0, .int .i64 0] 55)) := by
    show _ = _
    rw [heap_alloc_old _ _ (by simp; omega), heap_alloc_old _ _ (by simp), heap_alloc_new]
  have HSH : Hid ((((w1.alloc (.cells #[.slice none 0 0, .slice none 0 0, .int .i64 0] 55)).alloc (.cells #[.slice (some ⟨w.heap.size, 0, none⟩) 1 1, .pointer (some ⟨w1.heap.size, 0, none⟩), .slice none 0 0, .slice none 0 0] 58)).alloc (.map #[] 0)).heap[w1.heap.size + 1]? = some (.cells #[.slice (some ⟨w.heap.size, 0, none⟩) 1 1, .pointer (some ⟨w1.heap.size, 0, none⟩), .slice none 0 0, .slice none 0 0] 58)) := by
    show _ = _
    rw [heap_alloc_old _ _ (by simp)]
    exact heap_alloc2_new w1 _ _
  have HFM : Hid ((((w1.alloc (.cells #[.slice none 0 0, .slice none 0 0, .int .i64 0] 55)).alloc (.cells #[.slice (some ⟨w.heap.size, 0, none⟩) 1 1, .pointer (some ⟨w1.heap.size, 0, none⟩), .slice none 0 0, .slice none 0 0] 58)).alloc (.map #[] 0)).heap[w1.heap.size + 1 + 1]? = some (.map #[] 0)) := by
    have := heap_alloc_new ((w1.alloc (.cells #[.slice none 0 0, .slice none 0 0, .int .i64 0] 55)).alloc (.cells #[.slice (some ⟨w.heap.size, 0, none⟩) 1 1, .pointer (some ⟨w1.heap.size, 0, none⟩), .slice none 0 0, .slice none 0 0] 58)) (.map #[] 0)
    show _ = _
    simpa using this
  have hszS : (((w1.alloc (.cells #[.slice none 0 0, .slice none 0 0, .int .i64 0] 55)).alloc (.cells #[.slice (some ⟨w.heap.size, 0, none⟩) 1 1, .pointer (some ⟨w1.heap.size, 0, none⟩), .slice none 0 0, .slice none 0 0] 58)).alloc (.map #[] 0)).heap.size = w1.heap.size + 3 := by simp
  generalize hWS : (((w1.alloc (.cells #[.slice none 0 0, .slice none 0 0, .int .i64 0] 55)).alloc (.cells #[.slice (some ⟨w.heap.size, 0, none⟩) 1 1, .pointer (some ⟨w1.heap.size, 0, none⟩), .slice none 0 0, .slice none 0 0] 58)).alloc (.map #[] 0)) = WS at *
  have HSZ : Hid (WS.heap.size = w1.heap.size + 3) := hszS
  clear hWS hown1 hgrow1 hszS
  have hl1 := hbA.size
  have hbC : Below w.heap.size w WS := hbA.trans (hbB.mono hl1)
  have HNG : Hid (WS.ownsRow w.heap.size 71 1 (.slice (some ⟨w.heap.size, 0, none⟩) 1 1) 1 [.pointer none]) := owns_below HOW1.out hbB
  have hng : w.heap.size < w1.heap.size := ownsRow_lt HOW1.out _ rfl
  have HWn : Hid (w.heap.size < WS.heap.size) := by show _ < _; have := HSZ.out; omega
  clear hbB hbA HOW1
  go_loopw [5, 30] (fun sp iv wr => (iv = .int .i64 0 ∧ sp = .int .i64 0 ∧ Hid (WS = wr)) ∨ (iv = .int .i64 1 ∧ sp = .int .i64 1 ∧ Hid (Done1 w WS wr w1.heap.size (w1.heap.size + 1) cpu mem ds))) (fun _ iv _ => 1 - (intOf iv).toNat)
  case atStart => exact .inl ⟨rfl, rfl, rfl⟩
  case round =>
    rcases hrel with ⟨rfl, rfl, hw0⟩ | ⟨rfl, rfl, hR⟩
    · have hw0' : WS = wr := hw0.out
      subst hw0'
      have m0 := (hbC.cell (p := ⟨nb, 0, none⟩) ltn).trans n0
      have m1 := (hbC.cell (p := ⟨nb, 1, none⟩) ltn).trans n1
      have m2 := (hbC.cell (p := ⟨nb, 2, none⟩) ltn).trans n2
      have m3 := (hbC.cell (p := ⟨nb, 3, none⟩) ltn).trans n3
      have m4 := (hbC.cell (p := ⟨nb, 4, none⟩) ltn).trans n4
      have m5 := (hbC.cell (p := ⟨nb, 5, none⟩) ltn).trans n5
      have HDW : Hid (DevsIn WS da dc ds) := HD.out.cells hbC
      go_upto_region 7 with fail
      have hbD : Below WS.heap.size WS (WS.alloc (.cells #[.string ⟨#[]⟩, .int .i64 cpu, .int .i64 mem, .int .i64 (ds.length : Nat), .string ⟨#[]⟩, .slice da ds.length dc] 48)) := below_alloc1 _ _
      have HN7 : Hid ((WS.alloc (.cells #[.string ⟨#[]⟩, .int .i64 cpu, .int .i64 mem, .int .i64 (ds.length : Nat), .string ⟨#[]⟩, .slice da ds.length dc] 48)).heap[WS.heap.size]? = some (.cells #[.string ⟨#[]⟩, .int .i64 cpu, .int .i64 mem, .int .i64 (ds.length : Nat), .string ⟨#[]⟩, .slice da ds.length dc] 48)) := heap_alloc_new WS _
      have HDX : Hid (DevsIn (WS.alloc (.cells #[.string ⟨#[]⟩, .int .i64 cpu, .int .i64 mem, .int .i64 (ds.length : Nat), .string ⟨#[]⟩, .slice da ds.length dc] 48)) da dc ds) := HDW.out.cells hbD
      generalize hWX : WS.alloc (.cells #[.string ⟨#[]⟩, .int .i64 cpu, .int .i64 mem, .int .i64 (ds.length : Nat), .string ⟨#[]⟩, .slice da ds.length dc] 48) = WX at *
      clear hWX m0 m1 m2 m3 m4 m5
      have p3 := blk_c HN7.out (Below.refl _ _) (i := 3) rfl
      have p5 := blk_c HN7.out (Below.refl _ _) (i := 5) rfl
      go_cut [30, 46] from 30 to 185 (fun iv v wx => iv = .int .i64 0 ∧ v = .bool false ∧ WX = wx)
      case first =>
        by_cases h0 : ds.length = 0
        · have dz : ((ds.length : Int) != 0) = false := by simp [h0]
          go_wp2_with fail
          go_meet
          exact ⟨rfl, rfl, rfl⟩
        · have dz : ((ds.length : Int) != 0) = true := bne_iff_ne.2 (by omega)
          have dn : ((ds.length : Int) != (ds.length : Int)) = false := by simp
          go_wp2_with fail
          go_meet
          exact ⟨rfl, rfl, rfl⟩
      case rest =>
      obtain ⟨rfl, rfl, rfl⟩ := hcut
      go_upto_region 10 with (at_builtin; go_must (refine wpList_append_devs rfl _ _ rfl rfl da dc ds rfl HDX.out hn ?_); intro da' dc' W4 hown4 hgrow4; have HOW4 : Hid _ := hown4; have hb4 : Below WX.heap.size WX W4 := (Below.refl _ _).grown hgrow4 (Nat.le_refl _) (fun k h => by cases h); have HN4 : Hid _ := (hb4.block _ (heap_lt HN7.out)).trans HN7.out; have p5' := blk_c HN4.out (Below.refl _ _) (i := 5) rfl; have f5' := blk_f HN4.out (Below.refl _ _) 5; clear hown4 hgrow4)
      have HN5 : Hid ((W4.setCell ⟨WS.heap.size, 5, none⟩ (.slice da' ds.length dc')).heap[WS.heap.size]? = some (.cells #[.string ⟨#[]⟩, .int .i64 cpu, .int .i64 mem, .int .i64 (ds.length : Nat), .string ⟨#[]⟩, .slice da' ds.length dc'] 48)) := setCell_blk HN4.out _
      have hb5 : Below WS.heap.size WS (W4.setCell ⟨WS.heap.size, 5, none⟩ (.slice da' ds.length dc')) := (hbD.trans (hb4.mono hbD.size)).setCell (Nat.le_refl _) _
      have HOW5 : Hid ((W4.setCell ⟨WS.heap.size, 5, none⟩ (.slice da' ds.length dc')).ownsRow WX.heap.size 46 4 (.slice da' ds.length dc') ds.length (devCells ds)) := owns_setCell HOW4.out (fun q hq => by have h1 := owns_block HOW4.out q hq; have h2 := heap_lt HN7.out; simp only; omega)
      have hWXs : WS.heap.size < WX.heap.size := heap_lt HN7.out
      have hsz5 : WX.heap.size ≤ (W4.setCell ⟨WS.heap.size, 5, none⟩ (.slice da' ds.length dc')).heap.size := by simpa [World.setCell] using hb4.size
      generalize hW5 : W4.setCell ⟨WS.heap.size, 5, none⟩ (.slice da' ds.length dc') = W5 at *
      clear hW5 p3 p5 p5' f5' HN4 HOW4 HDX HDW hbD hb4
      have r0 := blk_r HN5.out (i := 0) rfl
      have r1 := blk_r HN5.out (i := 1) rfl
      have r2 := blk_r HN5.out (i := 2) rfl
      have r3 := blk_r HN5.out (i := 3) rfl
      have r4 := blk_r HN5.out (i := 4) rfl
      have r5 := blk_r HN5.out (i := 5) rfl
      obtain ⟨i2, hi2, hz2, hs2, hy2⟩ := info_parts Tryz.info2
      obtain ⟨i4, hi4, hz4, hs4, hy4⟩ := info_parts Tryz.info4
      obtain ⟨i3, hi3, hz3, hs3, hy3⟩ := info_parts Tryz.info3
      refine Mix.wp_region_mix (Mix.mkKd [(3, .mk (IsRow ds.length) (MadeAt W5.heap.size 2 (.int .i64 0) ds.length) []), (6, .mk (IsRow ds.length) (MadeAt W5.heap.size 2 (.int .i64 0) ds.length) []), (9, .mk (IsRow ds.length) (MadeAt W5.heap.size 4 (.bool false) ds.length) []), (12, .mk (IsRow ds.length) (MadeAt W5.heap.size 3 (.int .i64 0) ds.length) []), (13, .pur), (14, .mk (fun u => ∃ g : Nat, u = .pointer (some ⟨g, 0, none⟩)) (newBlock W5 #[.string ⟨#[]⟩, .int .i64 0, .int .i64 0, .int .i64 0, .string ⟨#[]⟩, .slice none 0 0, .int .i64 0, .int .i64 0, .slice none 0 0, .slice none 0 0, .slice none 0 0, .int .i64 0, .slice none 0 0, .slice none 0 0, .int .u64 0, .int .i64 0, .int .i64 0, .int .i64 0, .int .i64 0, .int .i64 0, .slice none 0 0, .int .i64 0, .bool false, .int .i64 0] 66) []), (15, .wr)]) (by kernel_rfl) (by kernel_rfl) (Mix.makers_of ?_) ?_
      · intro p hp
        simp only [List.mem_cons, List.not_mem_nil, or_false] at hp
        rcases hp with rfl | rfl | rfl | rfl | rfl | rfl | rfl
        · exact ⟨madeAt_lasts _ _ _ _, _, _, rfl, rfl, by simp⟩
        · exact ⟨madeAt_lasts _ _ _ _, _, _, rfl, rfl, by simp⟩
        · exact ⟨madeAt_lasts _ _ _ _, _, _, rfl, rfl, by simp⟩
        · exact ⟨madeAt_lasts _ _ _ _, _, _, rfl, rfl, by simp⟩
        · trivial
        · exact ⟨newBlock_lasts _ _ _, _, _, rfl, rfl, by simp⟩
        · trivial
      iterate 3
        refine Mix.x_det rfl (fun K hK => ?_)
        go_simp
        refine hK _ ?_
        clear hK K
      refine Mix.x_mk _ _ _ rfl rfl (.slice (some ⟨0, 0, none⟩) ds.length ds.length) ⟨0, rfl⟩ (fun p _ => make_makes _ _ 22 rfl 2 i2 _ Tryz.underlying22 hi2 hz2 hs2 hy2 (by decide) .i64 .i64 ds.length rfl rfl hn (below_regrown W5 p.d p.os).size rfl) ?_
      rintro u ⟨g8, rfl⟩
      iterate 2
        refine Mix.x_det rfl (fun K hK => ?_)
        go_simp
        refine hK _ ?_
        clear hK K
      refine Mix.x_mk _ _ _ rfl rfl (.slice (some ⟨0, 0, none⟩) ds.length ds.length) ⟨0, rfl⟩ (fun p _ => make_makes _ _ 22 rfl 2 i2 _ Tryz.underlying22 hi2 hz2 hs2 hy2 (by decide) .i64 .i64 ds.length rfl rfl hn (below_regrown W5 p.d p.os).size rfl) ?_
      rintro u ⟨g9, rfl⟩
      iterate 2
        refine Mix.x_det rfl (fun K hK => ?_)
        go_simp
        refine hK _ ?_
        clear hK K
      refine Mix.x_mk _ _ _ rfl rfl (.slice (some ⟨0, 0, none⟩) ds.length ds.length) ⟨0, rfl⟩ (fun p _ => make_makes _ _ 42 rfl 4 i4 _ Tryz.underlying42 hi4 hz4 hs4 hy4 (by decide) .i64 .i64 ds.length rfl rfl hn (below_regrown W5 p.d p.os).size rfl) ?_
      rintro u ⟨g10, rfl⟩
      iterate 2
        refine Mix.x_det rfl (fun K hK => ?_)
        go_simp
        refine hK _ ?_
        clear hK K
      refine Mix.x_mk _ _ _ rfl rfl (.slice (some ⟨0, 0, none⟩) ds.length ds.length) ⟨0, rfl⟩ (fun p _ => make_makes _ _ 23 rfl 3 i3 _ Tryz.underlying23 hi3 hz3 hs3 hy3 (by decide) .i64 .i64 ds.length rfl rfl hn (below_regrown W5 p.d p.os).size rfl) ?_
      rintro u ⟨gi, rfl⟩
      refine Mix.x_pur rfl (fun K hK => ?_)
      go_simp
      refine hK _ ?_
      clear hK K
      refine Mix.x_mk _ _ _ rfl rfl (.pointer (some ⟨0, 0, none⟩)) ⟨0, rfl⟩ (fun p _ => ?_) ?_
      · go_simp
        exact newBlock_alloc' _ _ _ _
      rintro u ⟨b, rfl⟩
      refine Mix.x_wr (fun W6 => Below W5.heap.size W5 W6 ∧ W5.heap.size ≤ b ∧ W6.heap[b]? = some (.cells #[.string ⟨#[]⟩, .int .i64 cpu, .int .i64 mem, .int .i64 (ds.length : Nat), .string ⟨#[]⟩, .slice da' ds.length dc', .int .i64 0, .int .i64 0, (.slice (some ⟨g8, 0, none⟩) ds.length ds.length), (.slice (some ⟨g9, 0, none⟩) ds.length ds.length), (.slice (some ⟨g10, 0, none⟩) ds.length ds.length), .int .i64 0, (.slice (some ⟨gi, 0, none⟩) ds.length ds.length), .slice none 0 0, .int .u64 0, .int .i64 0, .int .i64 0, .int .i64 0, .int .i64 0, .int .i64 0, .slice none 0 0, .int .i64 0, .bool false, .int .i64 0] 66 (0, 0)) ∧ W6.ownsRow W5.heap.size 2 1 (.slice (some ⟨g8, 0, none⟩) ds.length ds.length) ds.length (List.replicate ds.length (.int .i64 0)) ∧ W6.ownsRow W5.heap.size 3 1 (.slice (some ⟨gi, 0, none⟩) ds.length ds.length) ds.length (List.replicate ds.length (.int .i64 0))) rfl rfl ?_ ?_
      · intro W6 hW6
        obtain ⟨hb6, hk6⟩ := hW6
        obtain ⟨g2, he2, hg2, hblk⟩ := hk6 14 _ _ _ _ rfl rfl rfl
        have he2' : Value.pointer (some ⟨b, 0, none⟩) = .pointer (some ⟨g2, 0, none⟩) := he2
        obtain rfl : b = g2 := by simpa using he2'
        have ho8 : W6.ownsRow W5.heap.size 2 1 (.slice (some ⟨g8, 0, none⟩) ds.length ds.length) ds.length (List.replicate ds.length (.int .i64 0)) := hk6 3 _ _ _ _ rfl rfl rfl
        have ho12 : W6.ownsRow W5.heap.size 3 1 (.slice (some ⟨gi, 0, none⟩) ds.length ds.length) ds.length (List.replicate ds.length (.int .i64 0)) := hk6 12 _ _ _ _ rfl rfl rfl
        refine ⟨_, store_runs 66 _ _ rfl b #[.string ⟨#[]⟩, .int .i64 cpu, .int .i64 mem, .int .i64 (ds.length : Nat), .string ⟨#[]⟩, .slice da' ds.length dc', .int .i64 0, .int .i64 0, (.slice (some ⟨g8, 0, none⟩) ds.length ds.length), (.slice (some ⟨g9, 0, none⟩) ds.length ds.length), (.slice (some ⟨g10, 0, none⟩) ds.length ds.length), .int .i64 0, (.slice (some ⟨gi, 0, none⟩) ds.length ds.length), .slice none 0 0, .int .u64 0, .int .i64 0, .int .i64 0, .int .i64 0, .int .i64 0, .int .i64 0, .slice none 0 0, .int .i64 0, .bool false, .int .i64 0] rfl rfl 66 _ hblk (by kernel_rfl) rfl (by simp [Value.oneCell']), ?_, hg2, setRow_heap W6 b _ _ 66 _ hblk, owns_setRow ho8 hblk (by decide) _, owns_setRow ho12 hblk (by decide) _⟩
        exact hb6.trans ⟨rfl, rfl, rfl, by simp [World.setRow], fun q hq => setRow_other W6 b q _ (by omega)⟩
      intro W6 hW6
      obtain ⟨hb6, hb5b, hbk6, ho8, ho12⟩ := hW6
      clear r0 r1 r2 r3 r4 r5
      have HBK6 : Hid _ := hbk6
      have HO8 : Hid _ := ho8
      have HO12 : Hid _ := ho12
      clear hbk6 ho8 ho12
      show Exit.then _ _ _ _ _
      go_upto_region 12 with fail
      have hb7 : Below W6.heap.size W6 (W6.alloc (.map #[] 0)) := below_alloc1 _ _
      have HM7 : Hid (MapIs (W6.alloc (.map #[] 0)) W6.heap.size (ent [])) := ⟨#[], 0, heap_alloc_new W6 _, rfl⟩
      generalize hW7 : W6.alloc (.map #[] 0) = W7 at *
      clear hW7
      have lb := heap_lt HBK6.out
      have lgi := ownsRow_lt HO12.out gi rfl
      have bgi := owns_block HO12.out gi rfl
      have HG7 : Hid (b < W7.heap.size ∧ gi < W7.heap.size ∧ W6.heap.size < W7.heap.size ∧ gi < W6.heap.size) := ⟨by have := hb7.size; omega, by have := hb7.size; omega, HM7.out.lt, lgi⟩
      have HG7b : Hid (b < W6.heap.size) := lb
      have HBG : Hid (b ≠ gi) := fun e => by
        have h1 := owns_ne HO12.out HBK6.out (by decide) gi rfl
        exact h1 e.symm
      have HNb : Hid (WS.heap.size ∉ [b, gi, W6.heap.size]) := by
        have := hb6.size
        show ¬ _
        simp only [List.mem_cons, List.not_mem_nil, or_false, not_or]
        exact ⟨by omega, by omega, by omega⟩
      have hb57 : Below W5.heap.size W5 W7 := hb6.trans (hb7.mono hb6.size)
      have HN7' : Hid (W7.heap[WS.heap.size]? = some (.cells #[.string ⟨#[]⟩, .int .i64 cpu, .int .i64 mem, .int .i64 (ds.length : Nat), .string ⟨#[]⟩, .slice da' ds.length dc'] 48 (0, 0))) := (hb57.block _ (heap_lt HN5.out)).trans HN5.out
      have HOW7 : Hid (W7.ownsRow WX.heap.size 46 4 (.slice da' ds.length dc') ds.length (devCells ds)) := owns_below HOW5.out hb57
      have HBK7 : Hid (W7.heap[b]? = some (.cells #[.string ⟨#[]⟩, .int .i64 cpu, .int .i64 mem, .int .i64 (ds.length : Nat), .string ⟨#[]⟩, .slice da' ds.length dc', .int .i64 0, .int .i64 0, (.slice (some ⟨g8, 0, none⟩) ds.length ds.length), (.slice (some ⟨g9, 0, none⟩) ds.length ds.length), (.slice (some ⟨g10, 0, none⟩) ds.length ds.length), .int .i64 0, (.slice (some ⟨gi, 0, none⟩) ds.length ds.length), .slice none 0 0, .int .u64 0, .int .i64 0, .int .i64 0, .int .i64 0, .int .i64 0, .int .i64 0, .slice none 0 0, .int .i64 0, .bool false, .int .i64 0] 66 (0, 0))) := (hb7.block _ lb).trans HBK6.out
      have HIS7 : Hid (W7.ownsRow W5.heap.size 3 1 (.slice (some ⟨gi, 0, none⟩) ds.length ds.length) ds.length ((List.replicate ds.length 0).map natV)) := by
        show W7.ownsRow _ _ _ _ _ _
        rw [List.map_replicate]
        exact owns_below HO12.out hb7
      have l65 := hb6.size
      have l76 := hb7.size
      have HDSx : Hid (∀ q, Value.ownBlock (.slice da' ds.length dc') = some q → q ∉ [b, gi, W6.heap.size]) := fun q hq => by
        have h1 := ownsRow_lt HOW5.out q hq
        simp only [List.mem_cons, List.not_mem_nil, or_false, not_or]
        exact ⟨by omega, by omega, by omega⟩
      have HG8 : Hid (g8 ∉ [b, gi, W6.heap.size]) := by
        have h1 := ownsRow_lt HO8.out g8 rfl
        have h2 := owns_ne HO8.out HBK6.out (by decide) g8 rfl
        have h3 : g8 ≠ gi := by
          obtain ⟨-, h | ⟨g, cap, cur, e1, -, e3, -⟩⟩ := HO12.out
          · cases h.1
          · cases e1
            exact owns_ne HO8.out e3 (by decide) g8 rfl
        show ¬ _
        simp only [List.mem_cons, List.not_mem_nil, or_false, not_or]
        exact ⟨h2, h3, by omega⟩
      have HO87 : Hid (W7.ownsRow W5.heap.size 2 1 (.slice (some ⟨g8, 0, none⟩) ds.length ds.length) ds.length (List.replicate ds.length (.int .i64 0))) := owns_below HO8.out hb7
      have lw5 := hb5.size
      have hbS7 : Below WS.heap.size WS W7 := hb5.trans (hb57.mono lw5)
      have HLow : Hid (∀ q, q < WS.heap.size → q ∉ [b, gi, W6.heap.size]) := fun q hq => by
        simp only [List.mem_cons, List.not_mem_nil, or_false, not_or]
        exact ⟨by omega, by omega, by omega⟩
      have HMX7 : Hid _ := (hbS7.block _ (heap_lt HMX.out)).trans HMX.out
      have HSH7 : Hid _ := (hbS7.block _ (heap_lt HSH.out)).trans HSH.out
      have HFM7 : Hid _ := (hbS7.block _ (heap_lt HFM.out)).trans HFM.out
      have HNG7 : Hid _ := owns_below HNG.out hbS7
      have HGI5 : Hid (W5.heap.size ≤ gi) := bgi
      clear hb6 hb7 lb lgi bgi HN5 HN7 HOW5 HO12 HBK6 HO8
      have p3 := blk_c HN7'.out (Below.refl _ _) (i := 3) rfl
      go_wp2_with fail
      go_loopw [81] (fun iv wr => ∃ (j : Nat) (nms : List ByteArray) (ps : List (Nat × Bool)) (fr : List Nat) (v13 : Value), j ≤ ds.length ∧ iv = .int .i64 j ∧ Hid (St (ds.take j) nms ps fr) ∧ Hid (wr.heap[b]? = some (.cells #[.string ⟨#[]⟩, .int .i64 cpu, .int .i64 mem, .int .i64 (ds.length : Nat), .string ⟨#[]⟩, .slice da' ds.length dc', .int .i64 0, .int .i64 0, (.slice (some ⟨g8, 0, none⟩) ds.length ds.length), (.slice (some ⟨g9, 0, none⟩) ds.length ds.length), (.slice (some ⟨g10, 0, none⟩) ds.length ds.length), .int .i64 (sumN fr : Nat), (.slice (some ⟨gi, 0, none⟩) ds.length ds.length), v13, .int .u64 0, .int .i64 0, .int .i64 0, .int .i64 0, .int .i64 0, .int .i64 0, .slice none 0 0, .int .i64 0, .bool false, .int .i64 0] 66 (0, 0)) ∧ wr.ownsRow W7.heap.size 3 1 v13 fr.length (fr.map natV) ∧ (∃ xs : List Nat, wr.ownsRow W5.heap.size 3 1 (.slice (some ⟨gi, 0, none⟩) ds.length ds.length) ds.length (xs.map natV) ∧ ∀ (i : Nat) (p : Nat × Bool), ps[i]? = some p → xs[i]? = some p.1) ∧ MapIs wr W6.heap.size (ent nms) ∧ OnlyS [b, gi, W6.heap.size] W7 wr)) (fun iv _ => ds.length - (intOf iv).toNat)
      case atStart => exact ⟨0, [], [], [], .slice none 0 0, Nat.zero_le _, rfl, St.nil, HBK7.out, ⟨by simp, .inl ⟨rfl, rfl⟩⟩, ⟨_, HIS7.out, fun i p hp => by simp at hp⟩, HM7.out, OnlyS.refl _ _⟩
      case round =>
        clear p3 HBK7 HIS7 HM7
        obtain ⟨j, nms, ps, fr, v13, hj, rfl, HST, HL⟩ := hrel
        by_cases hjl : j < ds.length
        · obtain ⟨d, hdj⟩ : ∃ d, ds[j]? = some d := ⟨ds[j], List.getElem?_eq_getElem hjl⟩
          have HDJ : Hid (ds[j]? = some d) := hdj
          obtain ⟨dd, ddc, hdv⟩ := owns_form' HOW7.out (by omega)
          have HDA : Hid (da' = some ⟨dd, 0, none⟩) := (show da' = some ⟨dd, 0, none⟩ ∧ dc' = ddc by simpa using hdv).1
          have hob : Value.ownBlock (.slice da' ds.length dc') = some dd := by rw [HDA.out]; rfl
          have hOWd : W7.ownsRow WX.heap.size 46 4 (.slice (some ⟨dd, 0, none⟩) ds.length dc') ds.length (devCells ds) := by have := HOW7.out; rw [HDA.out] at this; exact this
          have HDN : Hid (W7.cell? ⟨dd, j * 4, none⟩ = some (.string d.1)) := by
            have h1 := (devCells_at ds j d hdj).1
            have h2 := hOWd.cellAt (j * 4) (by omega)
            rw [h1] at h2
            exact h2
          have HDC : Hid (W7.cell? ⟨dd, j * 4 + 1, none⟩ = some (.bool d.2)) := by
            have h1 := (devCells_at ds j d hdj).2
            have h2 := hOWd.cellAt (j * 4 + 1) (by omega)
            rw [h1] at h2
            exact h2
          have HDS : Hid (dd ∉ [b, gi, W6.heap.size]) := HDSx.out dd hob
          clear hdj hdv hOWd hob
          obtain ⟨L1, L2, L3, L4, L5⟩ := HL.out
          have e5 := L5.cell (blk_c HN7'.out (Below.refl _ _) (i := 5) rfl) HNb.out
          rw [HDA.out] at e5
          have en := L5.cell HDN.out HDS.out
          have dz : ((ds.length : Int) != 0) = true := bne_iff_ne.2 (by omega)
          by_cases hin : d.1 ∈ nms
          · obtain ⟨k, hkn⟩ := List.mem_iff_getElem?.1 hin
            have HKN : Hid (nms[k]? = some d.1) := hkn
            have HLK : Hid (look (ent nms) d.1 = some (natV k)) := look_ent_some HST.out.nodup hkn
            have hkl : k < nms.length := (List.getElem?_eq_some_iff.1 hkn).1
            have HMP : Hid (MapIs wr W6.heap.size (ent nms)) := L4
            have HND : Hid nms.Nodup := HST.out.nodup
            have HLN : Hid (fr.length = nms.length) := HST.out.len
            have HFRO : Hid (FrOf ps fr) := HST.out.fr
            have HBK : Hid _ := L1
            have HFR : Hid (wr.ownsRow W7.heap.size 3 1 v13 fr.length (fr.map natV)) := L2
            have HIS : Hid (∃ xs : List Nat, wr.ownsRow W5.heap.size 3 1 (.slice (some ⟨gi, 0, none⟩) ds.length ds.length) ds.length (xs.map natV) ∧ ∀ (i : Nat) (p : Nat × Bool), ps[i]? = some p → xs[i]? = some p.1) := L3
            have HON : Hid (OnlyS [b, gi, W6.heap.size] W7 wr) := L5
            clear L1 L2 L3 L4 L5 HL hin hkn
            go_upto_region 23 with (at_lookup; go_must (refine wpList_lookup_str_ok _ rfl _ _ 67 rfl 9 3 Tryz.underlying67 Tryz.underlying9 _ _ rfl HMP.out d.1 rfl (.int .i64 0) Tryz.zero3 (.int .i64 (k : Nat)) true (by rw [HLK.out]; rfl) (by rw [HLK.out]; rfl) ?_))
            clear e5 en
            generalize hX : wr = X at *
            generalize hn1 : nms = nms1 at HKN HLK HMP HND HLN
            have HOLD : Hid (∀ (i : Nat) x, nms[i]? = some x → nms1[i]? = some x) := fun _ _ h => hn1 ▸ h
            have HFEW : Hid (nms1.length ≤ nms.length + 1) := by rw [← hn1]; exact Nat.le_succ _
            clear hn1
            generalize hf1 : fr = fr1 at HLN HFRO HBK HFR
            generalize hv1 : v13 = v13x at HBK HFR
            clear hX HLK
            obtain ⟨xs, hIS, hISx⟩ := HIS.out
            have l12 := blk_c HBK.out (Below.refl _ _) (i := 12) rfl
            have gj := own_cell hIS j hjl
            have gf' := hIS.frozenAt j
            have HISy : Hid ((X.setCell ⟨gi, j, none⟩ (.int .i64 (k : Nat))).ownsRow W5.heap.size 3 1 (.slice (some ⟨gi, 0, none⟩) ds.length ds.length) ds.length ((xs.set j k).map natV)) := own_set hIS j k
            have HBKy : Hid ((X.setCell ⟨gi, j, none⟩ (.int .i64 (k : Nat))).heap[b]? = some (.cells #[.string ⟨#[]⟩, .int .i64 cpu, .int .i64 mem, .int .i64 (ds.length : Nat), .string ⟨#[]⟩, .slice da' ds.length dc', .int .i64 0, .int .i64 0, (.slice (some ⟨g8, 0, none⟩) ds.length ds.length), (.slice (some ⟨g9, 0, none⟩) ds.length ds.length), (.slice (some ⟨g10, 0, none⟩) ds.length ds.length), .int .i64 (sumN fr1 : Nat), (.slice (some ⟨gi, 0, none⟩) ds.length ds.length), v13x, .int .u64 0, .int .i64 0, .int .i64 0, .int .i64 0, .int .i64 0, .int .i64 0, .slice none 0 0, .int .i64 0, .bool false, .int .i64 0] 66 (0, 0))) := (Below.heap_setCell X ⟨gi, j, none⟩ _ b HBG.out).trans HBK.out
            have HFRy : Hid ((X.setCell ⟨gi, j, none⟩ (.int .i64 (k : Nat))).ownsRow W7.heap.size 3 1 v13x fr1.length (fr1.map natV)) := owns_setCell HFR.out (fun q hq => by have h1 := owns_block HFR.out q hq; have h2 := HG7.out.2.1; simp only; omega)
            have HMPy : Hid (MapIs (X.setCell ⟨gi, j, none⟩ (.int .i64 (k : Nat))) W6.heap.size (ent nms1)) := HMP.out.kept (Below.heap_setCell X ⟨gi, j, none⟩ _ _ (by have h2 := HG7.out.2.2.2; simp only; omega))
            have HONy : Hid (OnlyS [b, gi, W6.heap.size] W7 (X.setCell ⟨gi, j, none⟩ (.int .i64 (k : Nat)))) := HON.out.setCell (.inl (by simp)) _
            have HISx : Hid (∀ (i : Nat) (p : Nat × Bool), (ps ++ [(k, !d.2)])[i]? = some p → (xs.set j k)[i]? = some p.1) := fun i p hp => by
              have hpl := HST.out.plen
              rw [List.length_take] at hpl
              have hxl : xs.length = ds.length := by have := hIS.1; simpa using this
              rcases Nat.lt_or_ge i j with h | h
              · rw [List.getElem?_append_left (by omega)] at hp
                rw [List.getElem?_set_ne (by omega)]
                exact hISx i p hp
              · have hij : i = j := by
                  rcases Nat.eq_or_lt_of_le h with e | e
                  · exact e.symm
                  · rw [List.getElem?_eq_none (by simp; omega)] at hp; cases hp
                subst hij
                rw [List.getElem?_append_right (by omega), show i - ps.length = 0 by omega] at hp
                simp at hp
                subst hp
                rw [List.getElem?_set_self (by omega)]
            clear hIS hISx
            go_upto_region 24 with fail
            generalize hY : X.setCell ⟨gi, j, none⟩ (.int .i64 (k : Nat)) = Y at *
            clear hY l12 gj gf' HIS HBK HFR HMP HON
            have HHY : Hid (HealthAt Y b j (!d.2)) := ⟨_, _, _, blk_c HBKy.out (Below.refl _ _) (i := 5) rfl, .inr ⟨hjl, dd, 0, HDA.out, by rw [Nat.zero_add]; simpa using HONy.out.cell HDC.out HDS.out⟩⟩
            have HTK : Hid (ds.take (j + 1) = ds.take j ++ [d]) := by
              show _ = _
              rw [List.take_succ_eq_append_getElem hjl]
              have := HDJ.out
              rw [List.getElem?_eq_getElem hjl] at this
              rw [Option.some.inj this]
            have hkf : k < fr1.length := by
              have := (List.getElem?_eq_some_iff.1 HKN.out).1
              have := HLN.out
              omega
            go_wp2_with fail
            refine (healthy b j (!d.2) Y HHY.out).mono ?_
            rintro e w' ⟨rfl, rfl⟩
            cases hun : d.2 with
            | true =>
              have HNX : Hid (St (ds.take (j + 1)) nms1 (ps ++ [(k, !d.2)]) fr1) := by
                show St _ _ _ _
                rw [HTK.out]
                refine HST.out.next d k HND.out HLN.out ?_ HOLD.out HKN.out HFEW.out
                rw [hun]
                exact HFRO.out.bad hkf
              go_wp2_with fail
              go_roundw
              case rel => first | exact ⟨j + 1, nms1, ps ++ [(k, !d.2)], fr1, v13x, by omega, by go_num, HNX.out, ⟨HBKy.out, HFRy.out, ⟨_, HISy.out, HISx.out⟩, HMPy.out, HONy.out⟩⟩ | ((repeat apply Exists.intro); exact ⟨⟨j + 1, nms1, ps ++ [(k, !d.2)], fr1, v13x, by omega, by go_num, HNX.out, ⟨HBKy.out, HFRy.out, ⟨_, HISy.out, HISx.out⟩, HMPy.out, HONy.out⟩⟩, rfl⟩)
              case measure => simp [intOf]; omega
            | false =>
              have HNX : Hid (St (ds.take (j + 1)) nms1 (ps ++ [(k, !d.2)]) (fr1.set k (fr1[k]?.getD 0 + 1))) := by
                show St _ _ _ _
                rw [HTK.out]
                refine HST.out.next d k HND.out (by rw [List.length_set]; exact HLN.out) ?_ HOLD.out HKN.out HFEW.out
                rw [hun]
                exact HFRO.out.good hkf
              have hbn : sumN fr1 ≤ 65536 := by
                have h1 := HFRO.out.2.2
                have h2 : ps.countP (·.2) ≤ ps.length := List.countP_le_length
                have h3 := HST.out.plen
                rw [List.length_take] at h3
                omega
              have hbx : fr1[k]?.getD 0 ≤ 65536 := by
                rw [HFRO.out.1 k]
                have h2 : cntI ps k ≤ ps.length := List.countP_le_length
                have h3 := HST.out.plen
                rw [List.length_take] at h3
                omega
              obtain ⟨gf, gfc, rfl⟩ := owns_form' HFRy.out (by omega)
              have gfb := owns_block HFRy.out gf rfl
              have t13 := blk_c HBKy.out (Below.refl _ _) (i := 13) rfl
              have t11 := blk_c HBKy.out (Below.refl _ _) (i := 11) rfl
              have u11 := blk_f HBKy.out (Below.refl _ _) 11
              have ck := own_cell HFRy.out k hkf
              have fk := HFRy.out.frozenAt k
              have hsum : sumN (fr1.set k (fr1[k]?.getD 0 + 1)) = sumN fr1 + 1 := by
                have := sumN_set fr1 k (fr1[k]?.getD 0 + 1) hkf
                omega
              have hbgf : b ≠ gf := by have := HG7.out.1; omega
              have HFRz : Hid (((Y.setCell ⟨gf, k, none⟩ (.int .i64 ((fr1[k]?.getD 0 + 1 : Nat) : Int))).setCell ⟨b, 11, none⟩ (.int .i64 ((sumN fr1 + 1 : Nat) : Int))).ownsRow W7.heap.size 3 1 (.slice (some ⟨gf, 0, none⟩) fr1.length gfc) (fr1.set k (fr1[k]?.getD 0 + 1)).length ((fr1.set k (fr1[k]?.getD 0 + 1)).map natV)) := by
                rw [List.length_set]
                exact owns_setCell (own_set HFRy.out k _) (fun q hq => by cases hq; exact fun e => hbgf e.symm)
              have HBKz : Hid (((Y.setCell ⟨gf, k, none⟩ (.int .i64 ((fr1[k]?.getD 0 + 1 : Nat) : Int))).setCell ⟨b, 11, none⟩ (.int .i64 ((sumN fr1 + 1 : Nat) : Int))).heap[b]? = some (.cells #[.string ⟨#[]⟩, .int .i64 cpu, .int .i64 mem, .int .i64 (ds.length : Nat), .string ⟨#[]⟩, .slice da' ds.length dc', .int .i64 0, .int .i64 0, (.slice (some ⟨g8, 0, none⟩) ds.length ds.length), (.slice (some ⟨g9, 0, none⟩) ds.length ds.length), (.slice (some ⟨g10, 0, none⟩) ds.length ds.length), .int .i64 (sumN (fr1.set k (fr1[k]?.getD 0 + 1)) : Nat), (.slice (some ⟨gi, 0, none⟩) ds.length ds.length), (.slice (some ⟨gf, 0, none⟩) fr1.length gfc), .int .u64 0, .int .i64 0, .int .i64 0, .int .i64 0, .int .i64 0, .int .i64 0, .slice none 0 0, .int .i64 0, .bool false, .int .i64 0] 66 (0, 0))) := by
                show _ = _
                rw [hsum]
                exact setCell_blk ((Below.heap_setCell Y ⟨gf, k, none⟩ _ b hbgf).trans HBKy.out) _
              have HISz : Hid (((Y.setCell ⟨gf, k, none⟩ (.int .i64 ((fr1[k]?.getD 0 + 1 : Nat) : Int))).setCell ⟨b, 11, none⟩ (.int .i64 ((sumN fr1 + 1 : Nat) : Int))).ownsRow W5.heap.size 3 1 (.slice (some ⟨gi, 0, none⟩) ds.length ds.length) ds.length ((xs.set j k).map natV)) :=
                owns_setCell (owns_setCell HISy.out (fun q hq => by cases hq; have := HG7.out.2.1; simp only; omega)) (fun q hq => by cases hq; exact fun e => HBG.out e.symm)
              have HMPz : Hid (MapIs ((Y.setCell ⟨gf, k, none⟩ (.int .i64 ((fr1[k]?.getD 0 + 1 : Nat) : Int))).setCell ⟨b, 11, none⟩ (.int .i64 ((sumN fr1 + 1 : Nat) : Int))) W6.heap.size (ent nms1)) :=
                (HMPy.out.kept (Below.heap_setCell _ _ _ _ (by have := HG7.out.2.2.1; simp only; omega))).kept (Below.heap_setCell _ _ _ _ (by have := HG7b.out; simp only; omega))
              have HONz : Hid (OnlyS [b, gi, W6.heap.size] W7 ((Y.setCell ⟨gf, k, none⟩ (.int .i64 ((fr1[k]?.getD 0 + 1 : Nat) : Int))).setCell ⟨b, 11, none⟩ (.int .i64 ((sumN fr1 + 1 : Nat) : Int)))) := (HONy.out.setCell (.inr gfb) _).setCell (.inl (by simp)) _
              generalize hfx : fr1[k]?.getD 0 = fx at *
              generalize hsx : sumN fr1 = sx at *
              go_wp2_with fail
              go_roundw
              case rel => first | exact ⟨j + 1, nms1, ps ++ [(k, !d.2)], fr1.set k (fx + 1), .slice (some ⟨gf, 0, none⟩) fr1.length gfc, by omega, by go_num, HNX.out, ⟨HBKz.out, HFRz.out, ⟨_, HISz.out, HISx.out⟩, HMPz.out, HONz.out⟩⟩ | ((repeat apply Exists.intro); exact ⟨⟨j + 1, nms1, ps ++ [(k, !d.2)], fr1.set k (fx + 1), .slice (some ⟨gf, 0, none⟩) fr1.length gfc, by omega, by go_num, HNX.out, ⟨HBKz.out, HFRz.out, ⟨_, HISz.out, HISx.out⟩, HMPz.out, HONz.out⟩⟩, rfl⟩)
              case measure => simp [intOf]; omega
          · have HLK : Hid (look (ent nms) d.1 = none) := look_ent_none hin
            have HNI : Hid (d.1 ∉ nms) := hin
            have HMP0 : Hid (MapIs wr W6.heap.size (ent nms)) := L4
            obtain ⟨a13, c13, hv13, -⟩ := owns_slice L2
            have HV13 : Hid (v13 = .slice a13 fr.length c13) := hv13
            have c13' : wr.cell? ⟨b, 13, none⟩ = some (.slice a13 fr.length c13) := by
              have := blk_c L1 (Below.refl _ _) (i := 13) rfl
              rw [hv13] at this
              exact this
            have HBK0 : Hid _ := L1
            have HFR0 : Hid (wr.ownsRow W7.heap.size 3 1 (.slice a13 fr.length c13) fr.length (fr.map natV)) := by have := L2; rw [hv13] at this; exact this
            have HIS0 : Hid (∃ xs : List Nat, wr.ownsRow W5.heap.size 3 1 (.slice (some ⟨gi, 0, none⟩) ds.length ds.length) ds.length (xs.map natV) ∧ ∀ (i : Nat) (p : Nat × Bool), ps[i]? = some p → xs[i]? = some p.1) := L3
            have HON0 : Hid (OnlyS [b, gi, W6.heap.size] W7 wr) := L5
            have hfl : fr.length ≤ 65536 := by have h1 := HST.out.len; have h2 := HST.out.few; rw [List.length_take] at h2; omega
            have hws := L5.size
            clear L1 L2 L3 L4 L5 HL hin hv13
            go_upto_region 23 with (first
              | (at_lookup; refine wpList_lookup_str_ok _ rfl _ _ 67 rfl 9 3 Tryz.underlying67 Tryz.underlying9 _ _ rfl HMP0.out d.1 rfl (.int .i64 0) Tryz.zero3 (.int .i64 0) false (by rw [HLK.out]; rfl) (by rw [HLK.out]; rfl) ?_)
              | (at_mapUpdate; refine wpList_update_str _ rfl _ _ _ 67 rfl 9 3 Tryz.underlying67 Tryz.underlying9 _ _ rfl HMP0.out d.1 rfl _ rfl HLK.out ?_; intro w3 hm3 hg3; have HM3 : Hid _ := hm3; have HG3 : Hid _ := hg3; have d13 : w3.cell? ⟨b, 13, none⟩ = some (.slice a13 fr.length c13) := (cell_other HG3.out c13' (by have := HG7.out; have := HG7b.out; simp only; omega)); clear hm3 hg3)
              | (at_builtin; refine wpList_append_own _ rfl _ _ 23 rfl W7.heap.size 3 i3 (.int .i64 0) 1 8 Tryz.underlying23 hi3 hz3 hs3 hy3 rfl (by decide) (.slice a13 fr.length c13) fr.length (fr.map natV) rfl ((ownsRow_grown HFR0.out HG3.out (fun q hq => by have h1 := owns_block HFR0.out q hq; have := HG7.out; omega)).alloc _) ⟨w3.heap.size, 0, none⟩ 1 1 [.int .i64 0] rfl rfl (cell_one_new _ _ _) (by intro u hu; simp at hu; subst hu; rfl) (by unfold maxLen; omega) (by omega) (by have := HG3.out.size; simp; omega) ?_; intro v' w4 hown4 hgrow4 _; obtain ⟨g4, c4, rfl⟩ := owns_form' hown4 (by omega); have HOW4x : Hid _ := hown4; have HG4x : Hid _ := hgrow4; have HB4x : Hid (w4.heap[b]? = some (.cells #[.string ⟨#[]⟩, .int .i64 cpu, .int .i64 mem, .int .i64 (ds.length : Nat), .string ⟨#[]⟩, .slice da' ds.length dc', .int .i64 0, .int .i64 0, (.slice (some ⟨g8, 0, none⟩) ds.length ds.length), (.slice (some ⟨g9, 0, none⟩) ds.length ds.length), (.slice (some ⟨g10, 0, none⟩) ds.length ds.length), .int .i64 (sumN fr : Nat), (.slice (some ⟨gi, 0, none⟩) ds.length ds.length), v13, .int .u64 0, .int .i64 0, .int .i64 0, .int .i64 0, .int .i64 0, .int .i64 0, .slice none 0 0, .int .i64 0, .bool false, .int .i64 0] 66 (0, 0))) := grown_blk HG4x.out (alloc_blk (grown_blk HG3.out HBK0.out (fun e => by have h1 := Option.some.inj e; have := HG7b.out; omega)) _) (fun e => by have h1 := owns_block HFR0.out b e; have := HG7.out; omega); have d13' := blk_c HB4x.out (Below.refl _ _) (i := 13) rfl; have f13' := blk_f HB4x.out (Below.refl _ _) 13; clear hown4 hgrow4))
            clear e5 en c13' d13 d13' f13'
            have HBK : Hid ((w4.setCell ⟨b, 13, none⟩ (.slice (some ⟨g4, 0, none⟩) (fr.length + 1) c4)).heap[b]? = some (.cells #[.string ⟨#[]⟩, .int .i64 cpu, .int .i64 mem, .int .i64 (ds.length : Nat), .string ⟨#[]⟩, .slice da' ds.length dc', .int .i64 0, .int .i64 0, (.slice (some ⟨g8, 0, none⟩) ds.length ds.length), (.slice (some ⟨g9, 0, none⟩) ds.length ds.length), (.slice (some ⟨g10, 0, none⟩) ds.length ds.length), .int .i64 (sumN (fr ++ [0]) : Nat), (.slice (some ⟨gi, 0, none⟩) ds.length ds.length), (.slice (some ⟨g4, 0, none⟩) (fr.length + 1) c4), .int .u64 0, .int .i64 0, .int .i64 0, .int .i64 0, .int .i64 0, .int .i64 0, .slice none 0 0, .int .i64 0, .bool false, .int .i64 0] 66 (0, 0))) := by
              show _ = _
              rw [sumN_snoc0]
              exact setCell_blk HB4x.out _
            have hg4b := owns_block HOW4x.out g4 rfl
            have HFR : Hid ((w4.setCell ⟨b, 13, none⟩ (.slice (some ⟨g4, 0, none⟩) (fr.length + 1) c4)).ownsRow W7.heap.size 3 1 (.slice (some ⟨g4, 0, none⟩) (fr.length + 1) c4) (fr ++ [0]).length ((fr ++ [0]).map natV)) := by
              have h1 := HOW4x.out
              have h2 : fr.map natV ++ [.int .i64 0] = (fr ++ [0]).map natV := by simp [natV]
              rw [h2] at h1
              rw [List.length_append]
              exact owns_setCell h1 (fun q hq => by cases hq; have := HG7.out; simp only; omega)
            have hng4 : ∀ q, q < W7.heap.size → q ≠ W6.heap.size → q ≠ b → (w4.setCell ⟨b, 13, none⟩ (.slice (some ⟨g4, 0, none⟩) (fr.length + 1) c4)).heap[q]? = wr.heap[q]? := fun q hq h6 hqb => by
              have l1 : q < wr.heap.size := by omega
              rw [Below.heap_setCell _ _ _ _ hqb]
              refine (HG4x.out.block q (by have := HG3.out.size; simp; omega) (fun e => by have h1 := owns_block HFR0.out q e.symm; omega)).trans ?_
              rw [heap_alloc_old _ _ (by have := HG3.out.size; omega)]
              exact HG3.out.block q l1 (fun e => h6 (Option.some.inj e))
            have HIS : Hid (∃ xs : List Nat, (w4.setCell ⟨b, 13, none⟩ (.slice (some ⟨g4, 0, none⟩) (fr.length + 1) c4)).ownsRow W5.heap.size 3 1 (.slice (some ⟨gi, 0, none⟩) ds.length ds.length) ds.length (xs.map natV) ∧ ∀ (i : Nat) (p : Nat × Bool), ps[i]? = some p → xs[i]? = some p.1) := by
              obtain ⟨xs, h1, h2⟩ := HIS0.out
              exact ⟨xs, ownsRow_same h1 (fun q hq => by cases hq; exact hng4 gi HG7.out.2.1 (by have := HG7.out.2.2.2; omega) (fun e => HBG.out e.symm)), h2⟩
            have HMP : Hid (MapIs (w4.setCell ⟨b, 13, none⟩ (.slice (some ⟨g4, 0, none⟩) (fr.length + 1) c4)) W6.heap.size (ent (nms ++ [d.1]))) := by
              have h1 : MapIs w3 W6.heap.size (ent nms ++ [(d.1, .int .i64 (fr.length : Nat))]) := HM3.out
              have h3 : ent (nms ++ [d.1]) = ent nms ++ [(d.1, .int .i64 (fr.length : Nat))] := by rw [ent_snoc, HST.out.len]; rfl
              show MapIs _ _ _
              rw [h3]
              refine h1.kept ?_
              have l6 := h1.lt
              rw [Below.heap_setCell _ _ _ _ (by have := HG7b.out; simp only; omega)]
              refine (HG4x.out.block _ (by simp; omega) (fun e => by have h1 := owns_block HFR0.out _ e.symm; have := HG7.out; omega)).trans ?_
              rw [heap_alloc_old _ _ l6]
            have HON : Hid (OnlyS [b, gi, W6.heap.size] W7 (w4.setCell ⟨b, 13, none⟩ (.slice (some ⟨g4, 0, none⟩) (fr.length + 1) c4))) := by
              refine OnlyS.setCell ?_ (.inl (by simp)) _
              refine ((HON0.out.grown HG3.out (fun q hq => .inl (by cases hq; simp))).trans (OnlyS.of (below_alloc1 _ _))).grown HG4x.out (fun q hq => .inr (owns_block HFR0.out q hq))
            have HKN : Hid ((nms ++ [d.1])[fr.length]? = some d.1) := by
              show _ = _
              rw [HST.out.len]
              simp
            have HND : Hid (nms ++ [d.1]).Nodup := List.nodup_append.2 ⟨HST.out.nodup, by simp, fun x hx y hy => by simp at hy; subst hy; exact fun e => HNI.out (e ▸ hx)⟩
            have HLN : Hid ((fr ++ [0]).length = (nms ++ [d.1]).length) := by have := HST.out.len; show _ = _; simp [this]
            have HFRO : Hid (FrOf ps (fr ++ [0])) := HST.out.fr.grow
            have HOLD : Hid (∀ (i : Nat) x, nms[i]? = some x → (nms ++ [d.1])[i]? = some x) := fun i x h => by rw [List.getElem?_append_left ((List.getElem?_eq_some_iff.1 h).1)]; exact h
            have HFEW : Hid ((nms ++ [d.1]).length ≤ nms.length + 1) := by show _ ≤ _; simp
            generalize hX : w4.setCell ⟨b, 13, none⟩ (.slice (some ⟨g4, 0, none⟩) (fr.length + 1) c4) = X at *
            clear hX hng4 HIS0 HMP0 HON0 HBK0 HLK HNI HOW4x HG4x HB4x HM3 HG3 HV13
            generalize hv1 : Value.slice (some ⟨g4, 0, none⟩) (fr.length + 1) c4 = v13x at HBK HFR
            generalize hn1 : nms ++ [d.1] = nms1 at HKN HMP HND HLN HOLD HFEW
            generalize hf1 : fr ++ [0] = fr1 at HLN HFRO HBK HFR
            generalize hk1 : fr.length = k at *
            clear hv1 hn1 hf1
            obtain ⟨xs, hIS, hISx⟩ := HIS.out
            have l12 := blk_c HBK.out (Below.refl _ _) (i := 12) rfl
            have gj := own_cell hIS j hjl
            have gf' := hIS.frozenAt j
            have HISy : Hid ((X.setCell ⟨gi, j, none⟩ (.int .i64 (k : Nat))).ownsRow W5.heap.size 3 1 (.slice (some ⟨gi, 0, none⟩) ds.length ds.length) ds.length ((xs.set j k).map natV)) := own_set hIS j k
            have HBKy : Hid ((X.setCell ⟨gi, j, none⟩ (.int .i64 (k : Nat))).heap[b]? = some (.cells #[.string ⟨#[]⟩, .int .i64 cpu, .int .i64 mem, .int .i64 (ds.length : Nat), .string ⟨#[]⟩, .slice da' ds.length dc', .int .i64 0, .int .i64 0, (.slice (some ⟨g8, 0, none⟩) ds.length ds.length), (.slice (some ⟨g9, 0, none⟩) ds.length ds.length), (.slice (some ⟨g10, 0, none⟩) ds.length ds.length), .int .i64 (sumN fr1 : Nat), (.slice (some ⟨gi, 0, none⟩) ds.length ds.length), v13x, .int .u64 0, .int .i64 0, .int .i64 0, .int .i64 0, .int .i64 0, .int .i64 0, .slice none 0 0, .int .i64 0, .bool false, .int .i64 0] 66 (0, 0))) := (Below.heap_setCell X ⟨gi, j, none⟩ _ b HBG.out).trans HBK.out
            have HFRy : Hid ((X.setCell ⟨gi, j, none⟩ (.int .i64 (k : Nat))).ownsRow W7.heap.size 3 1 v13x fr1.length (fr1.map natV)) := owns_setCell HFR.out (fun q hq => by have h1 := owns_block HFR.out q hq; have h2 := HG7.out.2.1; simp only; omega)
            have HMPy : Hid (MapIs (X.setCell ⟨gi, j, none⟩ (.int .i64 (k : Nat))) W6.heap.size (ent nms1)) := HMP.out.kept (Below.heap_setCell X ⟨gi, j, none⟩ _ _ (by have h2 := HG7.out.2.2.2; simp only; omega))
            have HONy : Hid (OnlyS [b, gi, W6.heap.size] W7 (X.setCell ⟨gi, j, none⟩ (.int .i64 (k : Nat)))) := HON.out.setCell (.inl (by simp)) _
            have HISx : Hid (∀ (i : Nat) (p : Nat × Bool), (ps ++ [(k, !d.2)])[i]? = some p → (xs.set j k)[i]? = some p.1) := fun i p hp => by
              have hpl := HST.out.plen
              rw [List.length_take] at hpl
              have hxl : xs.length = ds.length := by have := hIS.1; simpa using this
              rcases Nat.lt_or_ge i j with h | h
              · rw [List.getElem?_append_left (by omega)] at hp
                rw [List.getElem?_set_ne (by omega)]
                exact hISx i p hp
              · have hij : i = j := by
                  rcases Nat.eq_or_lt_of_le h with e | e
                  · exact e.symm
                  · rw [List.getElem?_eq_none (by simp; omega)] at hp; cases hp
                subst hij
                rw [List.getElem?_append_right (by omega), show i - ps.length = 0 by omega] at hp
                simp at hp
                subst hp
                rw [List.getElem?_set_self (by omega)]
            clear hIS hISx
            go_upto_region 24 with fail
            generalize hY : X.setCell ⟨gi, j, none⟩ (.int .i64 (k : Nat)) = Y at *
            clear hY l12 gj gf' HIS HBK HFR HMP HON
            have HHY : Hid (HealthAt Y b j (!d.2)) := ⟨_, _, _, blk_c HBKy.out (Below.refl _ _) (i := 5) rfl, .inr ⟨hjl, dd, 0, HDA.out, by rw [Nat.zero_add]; simpa using HONy.out.cell HDC.out HDS.out⟩⟩
            have HTK : Hid (ds.take (j + 1) = ds.take j ++ [d]) := by
              show _ = _
              rw [List.take_succ_eq_append_getElem hjl]
              have := HDJ.out
              rw [List.getElem?_eq_getElem hjl] at this
              rw [Option.some.inj this]
            have hkf : k < fr1.length := by
              have := (List.getElem?_eq_some_iff.1 HKN.out).1
              have := HLN.out
              omega
            go_wp2_with fail
            refine (healthy b j (!d.2) Y HHY.out).mono ?_
            rintro e w' ⟨rfl, rfl⟩
            cases hun : d.2 with
            | true =>
              have HNX : Hid (St (ds.take (j + 1)) nms1 (ps ++ [(k, !d.2)]) fr1) := by
                show St _ _ _ _
                rw [HTK.out]
                refine HST.out.next d k HND.out HLN.out ?_ HOLD.out HKN.out HFEW.out
                rw [hun]
                exact HFRO.out.bad hkf
              go_wp2_with fail
              go_roundw
              case rel => first | exact ⟨j + 1, nms1, ps ++ [(k, !d.2)], fr1, v13x, by omega, by go_num, HNX.out, ⟨HBKy.out, HFRy.out, ⟨_, HISy.out, HISx.out⟩, HMPy.out, HONy.out⟩⟩ | ((repeat apply Exists.intro); exact ⟨⟨j + 1, nms1, ps ++ [(k, !d.2)], fr1, v13x, by omega, by go_num, HNX.out, ⟨HBKy.out, HFRy.out, ⟨_, HISy.out, HISx.out⟩, HMPy.out, HONy.out⟩⟩, rfl⟩)
              case measure => simp [intOf]; omega
            | false =>
              have HNX : Hid (St (ds.take (j + 1)) nms1 (ps ++ [(k, !d.2)]) (fr1.set k (fr1[k]?.getD 0 + 1))) := by
                show St _ _ _ _
                rw [HTK.out]
                refine HST.out.next d k HND.out (by rw [List.length_set]; exact HLN.out) ?_ HOLD.out HKN.out HFEW.out
                rw [hun]
                exact HFRO.out.good hkf
              have hbn : sumN fr1 ≤ 65536 := by
                have h1 := HFRO.out.2.2
                have h2 : ps.countP (·.2) ≤ ps.length := List.countP_le_length
                have h3 := HST.out.plen
                rw [List.length_take] at h3
                omega
              have hbx : fr1[k]?.getD 0 ≤ 65536 := by
                rw [HFRO.out.1 k]
                have h2 : cntI ps k ≤ ps.length := List.countP_le_length
                have h3 := HST.out.plen
                rw [List.length_take] at h3
                omega
              obtain ⟨gf, gfc, rfl⟩ := owns_form' HFRy.out (by omega)
              have gfb := owns_block HFRy.out gf rfl
              have t13 := blk_c HBKy.out (Below.refl _ _) (i := 13) rfl
              have t11 := blk_c HBKy.out (Below.refl _ _) (i := 11) rfl
              have u11 := blk_f HBKy.out (Below.refl _ _) 11
              have ck := own_cell HFRy.out k hkf
              have fk := HFRy.out.frozenAt k
              have hsum : sumN (fr1.set k (fr1[k]?.getD 0 + 1)) = sumN fr1 + 1 := by
                have := sumN_set fr1 k (fr1[k]?.getD 0 + 1) hkf
                omega
              have hbgf : b ≠ gf := by have := HG7.out.1; omega
              have HFRz : Hid (((Y.setCell ⟨gf, k, none⟩ (.int .i64 ((fr1[k]?.getD 0 + 1 : Nat) : Int))).setCell ⟨b, 11, none⟩ (.int .i64 ((sumN fr1 + 1 : Nat) : Int))).ownsRow W7.heap.size 3 1 (.slice (some ⟨gf, 0, none⟩) fr1.length gfc) (fr1.set k (fr1[k]?.getD 0 + 1)).length ((fr1.set k (fr1[k]?.getD 0 + 1)).map natV)) := by
                rw [List.length_set]
                exact owns_setCell (own_set HFRy.out k _) (fun q hq => by cases hq; exact fun e => hbgf e.symm)
              have HBKz : Hid (((Y.setCell ⟨gf, k, none⟩ (.int .i64 ((fr1[k]?.getD 0 + 1 : Nat) : Int))).setCell ⟨b, 11, none⟩ (.int .i64 ((sumN fr1 + 1 : Nat) : Int))).heap[b]? = some (.cells #[.string ⟨#[]⟩, .int .i64 cpu, .int .i64 mem, .int .i64 (ds.length : Nat), .string ⟨#[]⟩, .slice da' ds.length dc', .int .i64 0, .int .i64 0, (.slice (some ⟨g8, 0, none⟩) ds.length ds.length), (.slice (some ⟨g9, 0, none⟩) ds.length ds.length), (.slice (some ⟨g10, 0, none⟩) ds.length ds.length), .int .i64 (sumN (fr1.set k (fr1[k]?.getD 0 + 1)) : Nat), (.slice (some ⟨gi, 0, none⟩) ds.length ds.length), (.slice (some ⟨gf, 0, none⟩) fr1.length gfc), .int .u64 0, .int .i64 0, .int .i64 0, .int .i64 0, .int .i64 0, .int .i64 0, .slice none 0 0, .int .i64 0, .bool false, .int .i64 0] 66 (0, 0))) := by
                show _ = _
                rw [hsum]
                exact setCell_blk ((Below.heap_setCell Y ⟨gf, k, none⟩ _ b hbgf).trans HBKy.out) _
              have HISz : Hid (((Y.setCell ⟨gf, k, none⟩ (.int .i64 ((fr1[k]?.getD 0 + 1 : Nat) : Int))).setCell ⟨b, 11, none⟩ (.int .i64 ((sumN fr1 + 1 : Nat) : Int))).ownsRow W5.heap.size 3 1 (.slice (some ⟨gi, 0, none⟩) ds.length ds.length) ds.length ((xs.set j k).map natV)) :=
                owns_setCell (owns_setCell HISy.out (fun q hq => by cases hq; have := HG7.out.2.1; simp only; omega)) (fun q hq => by cases hq; exact fun e => HBG.out e.symm)
              have HMPz : Hid (MapIs ((Y.setCell ⟨gf, k, none⟩ (.int .i64 ((fr1[k]?.getD 0 + 1 : Nat) : Int))).setCell ⟨b, 11, none⟩ (.int .i64 ((sumN fr1 + 1 : Nat) : Int))) W6.heap.size (ent nms1)) :=
                (HMPy.out.kept (Below.heap_setCell _ _ _ _ (by have := HG7.out.2.2.1; simp only; omega))).kept (Below.heap_setCell _ _ _ _ (by have := HG7b.out; simp only; omega))
              have HONz : Hid (OnlyS [b, gi, W6.heap.size] W7 ((Y.setCell ⟨gf, k, none⟩ (.int .i64 ((fr1[k]?.getD 0 + 1 : Nat) : Int))).setCell ⟨b, 11, none⟩ (.int .i64 ((sumN fr1 + 1 : Nat) : Int)))) := (HONy.out.setCell (.inr gfb) _).setCell (.inl (by simp)) _
              generalize hfx : fr1[k]?.getD 0 = fx at *
              generalize hsx : sumN fr1 = sx at *
              go_wp2_with fail
              go_roundw
              case rel => first | exact ⟨j + 1, nms1, ps ++ [(k, !d.2)], fr1.set k (fx + 1), .slice (some ⟨gf, 0, none⟩) fr1.length gfc, by omega, by go_num, HNX.out, ⟨HBKz.out, HFRz.out, ⟨_, HISz.out, HISx.out⟩, HMPz.out, HONz.out⟩⟩ | ((repeat apply Exists.intro); exact ⟨⟨j + 1, nms1, ps ++ [(k, !d.2)], fr1.set k (fx + 1), .slice (some ⟨gf, 0, none⟩) fr1.length gfc, by omega, by go_num, HNX.out, ⟨HBKz.out, HFRz.out, ⟨_, HISz.out, HISx.out⟩, HMPz.out, HONz.out⟩⟩, rfl⟩)
              case measure => simp [intOf]; omega
        · obtain rfl : j = ds.length := by omega
          have HS : Hid (St ds nms ps fr) := by have := HST.out; rw [List.take_length] at this; exact this
          obtain ⟨L1, L2, ⟨xs, L3, L3x⟩, L4, L5⟩ := HL.out
          have e15 := blk_c L1 (Below.refl _ _) (i := 15) rfl
          have f15 := blk_f L1 (Below.refl _ _) 15
          have e1 := L5.cell (blk_c HN7'.out (Below.refl _ _) (i := 1) rfl) HNb.out
          have e2 := L5.cell (blk_c HN7'.out (Below.refl _ _) (i := 2) rfl) HNb.out
          have e3 := L5.cell (blk_c HN7'.out (Below.refl _ _) (i := 3) rfl) HNb.out
          have hnb : WS.heap.size ≠ b := fun e => HNb.out (by rw [e]; simp)
          have HB1 : Hid ((wr.setCell ⟨b, 15, none⟩ (.int .i64 (-1))).heap[b]? = some (.cells #[.string ⟨#[]⟩, .int .i64 cpu, .int .i64 mem, .int .i64 (ds.length : Nat), .string ⟨#[]⟩, .slice da' ds.length dc', .int .i64 0, .int .i64 0, (.slice (some ⟨g8, 0, none⟩) ds.length ds.length), (.slice (some ⟨g9, 0, none⟩) ds.length ds.length), (.slice (some ⟨g10, 0, none⟩) ds.length ds.length), .int .i64 (sumN fr : Nat), (.slice (some ⟨gi, 0, none⟩) ds.length ds.length), v13, .int .u64 0, .int .i64 (-1), .int .i64 0, .int .i64 0, .int .i64 0, .int .i64 0, .slice none 0 0, .int .i64 0, .bool false, .int .i64 0] 66 (0, 0))) := setCell_blk L1 _
          have A8 : Hid _ := L5.owns HO87.out (fun q hq => by cases hq; exact HG8.out)
          have AD : Hid _ := L5.owns HOW7.out HDSx.out
          have AM : Hid _ := L5.blk HMX7.out (HLow.out _ (heap_lt HMX.out))
          have AS : Hid _ := L5.blk HSH7.out (HLow.out _ (heap_lt HSH.out))
          have AF : Hid _ := L5.blk HFM7.out (HLow.out _ (heap_lt HFM.out))
          have AN : Hid _ := L5.owns HNG7.out (fun q hq => by cases hq; exact HLow.out _ HWn.out)
          have AI : Hid _ := L3
          have AIx : Hid _ := L3x
          have AFr : Hid _ := L2
          have LON : Hid _ := L5
          have lwr := L5.size
          have lbw : b < wr.heap.size := heap_lt L1
          clear L1 L2 L3 L3x L4 L5 HL
          go_upto_region 30 with fail
          have O2 : Hid (OnlyS [b, w1.heap.size + 1 + 1] wr ((wr.setCell ⟨b, 15, none⟩ (.int .i64 (-1))).alloc (.cells #[.int .i64 cpu, .int .i64 mem, .int .i64 (ds.length : Nat)] 70))) := ((OnlyS.refl _ _).setCell (.inl (by simp)) _).trans (OnlyS.of (below_alloc1 _ _))
          have HB2 : Hid (((wr.setCell ⟨b, 15, none⟩ (.int .i64 (-1))).alloc (.cells #[.int .i64 cpu, .int .i64 mem, .int .i64 (ds.length : Nat)] 70)).heap[b]? = some (.cells #[.string ⟨#[]⟩, .int .i64 cpu, .int .i64 mem, .int .i64 (ds.length : Nat), .string ⟨#[]⟩, .slice da' ds.length dc', .int .i64 0, .int .i64 0, (.slice (some ⟨g8, 0, none⟩) ds.length ds.length), (.slice (some ⟨g9, 0, none⟩) ds.length ds.length), (.slice (some ⟨g10, 0, none⟩) ds.length ds.length), .int .i64 (sumN fr : Nat), (.slice (some ⟨gi, 0, none⟩) ds.length ds.length), v13, .int .u64 0, .int .i64 (-1), .int .i64 0, .int .i64 0, .int .i64 0, .int .i64 0, .slice none 0 0, .int .i64 0, .bool false, .int .i64 0] 66 (0, 0))) := alloc_blk HB1.out _
          have HK2 : Hid (((wr.setCell ⟨b, 15, none⟩ (.int .i64 (-1))).alloc (.cells #[.int .i64 cpu, .int .i64 mem, .int .i64 (ds.length : Nat)] 70)).heap[wr.heap.size]? = some (.cells #[.int .i64 cpu, .int .i64 mem, .int .i64 (ds.length : Nat)] 70)) := by
            have e : (wr.setCell ⟨b, 15, none⟩ (.int .i64 (-1))).heap.size = wr.heap.size := by simp [World.setCell]
            have := heap_alloc_new (wr.setCell ⟨b, 15, none⟩ (.int .i64 (-1))) (.cells #[.int .i64 cpu, .int .i64 mem, .int .i64 (ds.length : Nat)] 70)
            rw [e] at this
            exact this
          have HF2 : Hid (((wr.setCell ⟨b, 15, none⟩ (.int .i64 (-1))).alloc (.cells #[.int .i64 cpu, .int .i64 mem, .int .i64 (ds.length : Nat)] 70)).heap[w1.heap.size + 1 + 1]? = some (.map #[] 0)) := alloc_blk ((Below.heap_setCell _ _ _ _ (by have := heap_lt HFM.out; have := HLow.out _ this; simp only [List.mem_cons, not_or] at this; exact this.1)).trans AF.out) _
          generalize hX2 : (wr.setCell ⟨b, 15, none⟩ (.int .i64 (-1))).alloc (.cells #[.int .i64 cpu, .int .i64 mem, .int .i64 (ds.length : Nat)] 70) = X2 at *
          clear hX2 e15 f15 e1 e2 e3 HB1
          have k0 := blk_c HK2.out (Below.refl _ _) (i := 0) rfl
          have k1 := blk_c HK2.out (Below.refl _ _) (i := 1) rfl
          have k2 := blk_c HK2.out (Below.refl _ _) (i := 2) rfl
          go_wp2_with (at_lookup; go_must (refine wpList_lookup3 _ rfl _ _ rfl (w1.heap.size + 1 + 1) HF2.out cpu mem (ds.length : Nat) rfl rfl ?_))
          go_loop [144] (fun iv => iv = .int .i64 0) (fun _ => 0)
          case atStart => rfl
          case round =>
            obtain rfl := hrel
            have e15 := blk_c HB2.out (Below.refl _ _) (i := 15) rfl
            have f15 := blk_f HB2.out (Below.refl _ _) 15
            have HB3 : Hid ((X2.setCell ⟨b, 15, none⟩ (.int .i64 0)).heap[b]? = some (.cells #[.string ⟨#[]⟩, .int .i64 cpu, .int .i64 mem, .int .i64 (ds.length : Nat), .string ⟨#[]⟩, .slice da' ds.length dc', .int .i64 0, .int .i64 0, (.slice (some ⟨g8, 0, none⟩) ds.length ds.length), (.slice (some ⟨g9, 0, none⟩) ds.length ds.length), (.slice (some ⟨g10, 0, none⟩) ds.length ds.length), .int .i64 (sumN fr : Nat), (.slice (some ⟨gi, 0, none⟩) ds.length ds.length), v13, .int .u64 0, .int .i64 0, .int .i64 0, .int .i64 0, .int .i64 0, .int .i64 0, .slice none 0 0, .int .i64 0, .bool false, .int .i64 0] 66 (0, 0))) := setCell_blk HB2.out _
            have O3 : Hid (OnlyS [b, w1.heap.size + 1 + 1] wr (X2.setCell ⟨b, 15, none⟩ (.int .i64 0))) := O2.out.setCell (.inl (by simp)) _
            have hkb : wr.heap.size ≠ b := by omega
            have HK3 : Hid ((X2.setCell ⟨b, 15, none⟩ (.int .i64 0)).heap[wr.heap.size]? = some (.cells #[.int .i64 cpu, .int .i64 mem, .int .i64 (ds.length : Nat)] 70)) := (Below.heap_setCell _ _ _ _ hkb).trans HK2.out
            have hqb : w1.heap.size + 1 + 1 ≠ b := by have := heap_lt HFM.out; have := HLow.out _ this; simp only [List.mem_cons, not_or] at this; exact this.1
            have HF3 : Hid ((X2.setCell ⟨b, 15, none⟩ (.int .i64 0)).heap[w1.heap.size + 1 + 1]? = some (.map #[] 0)) := (Below.heap_setCell _ _ _ _ hqb).trans HF2.out
            go_upto_region 39 with fail
            generalize hX3 : X2.setCell ⟨b, 15, none⟩ (.int .i64 0) = X3 at *
            clear hX3 e15 f15 k0 k1 k2 O2 HB2 HK2 HF2
            have k0 := blk_c HK3.out (Below.refl _ _) (i := 0) rfl
            have k1 := blk_c HK3.out (Below.refl _ _) (i := 1) rfl
            have k2 := blk_c HK3.out (Below.refl _ _) (i := 2) rfl
            obtain ⟨i71', hi71', hz71', hs71', hb71'⟩ := info_parts Tryz.info71
            go_upto_region 40 with (first
              | (refine wpList_mapEntry3 _ rfl _ _ rfl (w1.heap.size + 1 + 1) (alloc_blk HF3.out _) cpu mem (ds.length : Nat) rfl rfl ?_; intro X5 hg5 hm5; have HG5 : Hid _ := hg5; have HM5 : Hid _ := hm5; clear hg5 hm5)
              | (at_builtin; refine wpList_append_own _ rfl _ _ 51 rfl X3.heap.size 71 i71' (.pointer none) 1 8 Tryz.underlying51 hi71' hz71' hs71' hb71' rfl (by decide) (.slice none 0 0) 0 [] rfl ⟨by simp, .inl ⟨rfl, rfl⟩⟩ ⟨X3.heap.size, 0, none⟩ 1 1 [.pointer (some ⟨b, 0, none⟩)] rfl rfl (fun j u hu => cell_other HG5.out (cell_one_new _ _ _ j u hu) (by have := heap_lt HF3.out; rw [add_block]; simp only; omega)) (by intro u hu; simp at hu; subst hu; rfl) (by unfold maxLen; omega) (by omega) (by have := HG5.out.size; simp at this; omega) ?_; intro v' X6 hown6 hgrow6 _; have HG6 : Hid _ := hgrow6; obtain ⟨g6, c6, rfl⟩ := owns_form' hown6 (by omega); clear hown6 hgrow6)
              | (refine wpList_entryStore3 _ rfl _ _ _ rfl (w1.heap.size + 1 + 1) _ _ (grown_blk HG6.out HM5.out (by simp [Value.ownBlock])) rfl rfl ?_; intro X7 hg7; have HG7x : Hid _ := hg7; clear hg7))
            have O7 : Hid (OnlyS [b, w1.heap.size + 1 + 1] wr X7) := (((O3.out.trans (OnlyS.of (below_alloc1 _ _))).grown HG5.out (fun q hq => .inl (by cases hq; simp))).grown HG6.out (fun q hq => by cases hq)).grown HG7x.out (fun q hq => .inl (by cases hq; simp))
            have HB7 : Hid (X7.heap[b]? = some (.cells #[.string ⟨#[]⟩, .int .i64 cpu, .int .i64 mem, .int .i64 (ds.length : Nat), .string ⟨#[]⟩, .slice da' ds.length dc', .int .i64 0, .int .i64 0, (.slice (some ⟨g8, 0, none⟩) ds.length ds.length), (.slice (some ⟨g9, 0, none⟩) ds.length ds.length), (.slice (some ⟨g10, 0, none⟩) ds.length ds.length), .int .i64 (sumN fr : Nat), (.slice (some ⟨gi, 0, none⟩) ds.length ds.length), v13, .int .u64 0, .int .i64 0, .int .i64 0, .int .i64 0, .int .i64 0, .int .i64 0, .slice none 0 0, .int .i64 0, .bool false, .int .i64 0] 66 (0, 0))) := grown_blk HG7x.out (grown_blk HG6.out (grown_blk HG5.out (alloc_blk HB3.out _) (fun e => hqb (Option.some.inj e))) (by simp [Value.ownBlock])) (fun e => hqb (Option.some.inj e))
            clear HG5 HG6 HG7x HM5 HB3 HK3 HF3 O3 k0 k1 k2
            have hqs : w1.heap.size + 1 + 1 < WS.heap.size := heap_lt HFM.out
            have bLow : WS.heap.size ≤ b := by omega
            have nS : ∀ q, q ≠ b → q ≠ w1.heap.size + 1 + 1 → q ∉ [b, w1.heap.size + 1 + 1] := fun q h1 h2 => by simp only [List.mem_cons, List.not_mem_nil, or_false, not_or]; exact ⟨h1, h2⟩
            have D7 : Hid _ := O7.out.owns AD.out (fun q hq => nS q (fun e => HDSx.out q hq (by rw [e]; simp)) (by have := owns_block AD.out q hq; omega))
            have R8 : Hid _ := O7.out.owns A8.out (fun q hq => by cases hq; exact nS g8 (fun e => HG8.out (by rw [e]; simp)) (by have := owns_block A8.out g8 rfl; omega))
            have RI : Hid _ := O7.out.owns AI.out (fun q hq => by cases hq; exact nS gi (fun e => HBG.out e.symm) (by have := HGI5.out; omega))
            have RF : Hid _ := O7.out.owns AFr.out (fun q hq => by have h1 := owns_block AFr.out q hq; have h2 := HG7.out.1; exact nS q (by omega) (by omega))
            have M7 : Hid _ := O7.out.blk AM.out (nS _ (by omega) (by omega))
            have S7 : Hid _ := O7.out.blk AS.out (nS _ (by omega) (by omega))
            have N7 : Hid _ := O7.out.owns AN.out (fun q hq => by cases hq; exact nS w.heap.size (by have := HWn.out; omega) (by omega))
            have HA7 : Hid (Aux X7 b (.slice da' ds.length dc') (.slice (some ⟨g8, 0, none⟩) ds.length ds.length) (ps.map (·.2))) := aux_of R8.out D7.out HS.out (fun q hq e => HDSx.out q hq (by rw [e]; simp)) (fun e => HG8.out (by rw [e]; simp))
            have MX7 : Hid (MixAt X7 w1.heap.size) := ⟨blk_c M7.out (Below.refl _ _) (i := 0) rfl, blk_c M7.out (Below.refl _ _) (i := 1) rfl, blk_c M7.out (Below.refl _ _) (i := 2) rfl⟩
            have s1 := blk_c S7.out (Below.refl _ _) (i := 1) rfl
            go_wp2_with fail
            refine (weigh b w1.heap.size ds.length (sumN fr) cpu mem 0 _ _ _ _ _ _ (ps.map (·.2)) X7 HB7.out HA7.out MX7.out (by omega) (by rw [List.length_map, HS.out.plen]; exact hn) hc0 hc1 hm0 hm1).mono ?_
            rintro e X8 ⟨rfl, ho8, x, fits, hB8⟩
            have HB8 : Hid _ := hB8
            have HO8 : Hid _ := ho8
            clear hB8 ho8 s1
            have hsb : w1.heap.size + 1 ≠ b := by omega
            have hnb' : w.heap.size ≠ b := by have := HWn.out; omega
            have S8 : Hid (X8.heap[w1.heap.size + 1]? = some (.cells #[.slice (some ⟨w.heap.size, 0, none⟩) 1 1, .pointer (some ⟨w1.heap.size, 0, none⟩), .slice none 0 0, .slice none 0 0] 58 (0, 0))) := (HO8.out.block _ (heap_lt S7.out) hsb).trans S7.out
            have N8 : Hid (X8.ownsRow w.heap.size 71 1 (.slice (some ⟨w.heap.size, 0, none⟩) 1 1) 1 [.pointer none]) := ownsRow_same N7.out (fun q hq => by cases hq; exact HO8.out.block _ (ownsRow_lt N7.out _ rfl) hnb')
            have s0 := blk_c S8.out (Below.refl _ _) (i := 0) rfl
            have n0' : X8.cell? ⟨w.heap.size, 0, none⟩ = some (.pointer none) := (N8.out.cellAt 0 (by omega)).trans rfl
            have nf := N8.out.frozenAt 0
            have DONE : Hid (Done1 w WS (X8.setCell ⟨w.heap.size, 0, none⟩ (.pointer (some ⟨b, 0, none⟩))) w1.heap.size (w1.heap.size + 1) cpu mem ds) := by
              have oo : ∀ q, q ≠ w.heap.size → (X8.setCell ⟨w.heap.size, 0, none⟩ (.pointer (some ⟨b, 0, none⟩))).heap[q]? = X8.heap[q]? := fun q hq => Below.heap_setCell _ _ _ _ hq
              have o78 : ∀ q, q < X7.heap.size → q ≠ b → X8.heap[q]? = X7.heap[q]? := HO8.out.block
              have l78 := HO8.out.size
              have l27 := O7.out.size
              have lw := HWn.out
              have hsz9 : (X8.setCell ⟨w.heap.size, 0, none⟩ (.pointer (some ⟨b, 0, none⟩))).heap.size = X8.heap.size := by simp [World.setCell]
              have lift : ∀ {e : TypeId} {size : Nat} {v : Value} {n : Nat} {ys : List Value} {B : Nat}, X7.ownsRow B e size v n ys → WS.heap.size ≤ B → (∀ q, v.ownBlock = some q → q ≠ b) → (X8.setCell ⟨w.heap.size, 0, none⟩ (.pointer (some ⟨b, 0, none⟩))).ownsRow WS.heap.size e size v n ys := fun h hB hne =>
                owns_low (ownsRow_same h (fun q hq => by
                  have h1 := owns_block h q hq
                  rw [oo q (by omega)]
                  exact o78 q (ownsRow_lt h q hq) (hne q hq))) hB
              refine ⟨?_, by rw [hsz9]; omega, ?_, ?_, b, nms, ps, fr, ?_, bLow, by rw [hsz9]; have := heap_lt HB8.out; omega, ?_, HS.out⟩
              · have h1 : Below w.heap.size w wr := hbC.trans (hbS7.mono (by omega)) |>.trans (LON.out.below (by omega) (fun q hq => by simp only [List.mem_cons, List.not_mem_nil, or_false] at hq; have := HGI5.out; rcases hq with rfl | rfl | rfl <;> omega))
                have h2 : Below w.heap.size w X7 := h1.trans (O7.out.below (by omega) (fun q hq => by simp only [List.mem_cons, List.not_mem_nil, or_false] at hq; rcases hq with rfl | rfl <;> omega))
                exact (h2.trans (HO8.out.below (by omega) (by omega))).setCell (Nat.le_refl _) _
              · rw [oo _ (by omega), o78 _ (heap_lt M7.out) (by omega)]
                exact M7.out
              · rw [oo _ (by omega)]
                exact S8.out
              · have := (N8.out.stored 0 (.pointer (some ⟨b, 0, none⟩))).1
                simpa using this
              · refine booksIn_of (dv := .slice da' ds.length dc') (v13 := v13) (xs := xs) ((oo b (by omega)).trans HB8.out) bLow (lift R8.out (by omega) (fun q hq e => by cases hq; exact HG8.out (by have e' : g8 = b := e; rw [e']; simp))) (lift RI.out (by omega) (fun q hq => by cases hq; exact fun e => HBG.out e.symm)) AIx.out (lift RF.out (by omega) (fun q hq => by have h1 := owns_block RF.out q hq; have h2 := HG7.out.1; omega)) (lift D7.out (by omega) (fun q hq e => HDSx.out q hq (by rw [e]; simp))) HS.out
            go_wp2_with fail
            go_roundw
            case rel => first | exact .inr ⟨by go_num, by go_num, DONE.out⟩ | ((repeat apply Exists.intro); exact ⟨.inr ⟨by go_num, by go_num, DONE.out⟩, rfl⟩)
            case measure => simp [intOf]
    · obtain ⟨wo, hwo⟩ : ∃ wo, wo = wr := ⟨_, rfl⟩
      subst hwo
      obtain ⟨D1, D2, D3, D4, b, nms, ps, fr, D5, D6, D7, D8, D9⟩ := hR.out
      have E1 : Hid _ := D1
      have E3 : Hid _ := D3
      have E4 : Hid _ := D4
      have E5 : Hid _ := D5
      have E8 : Hid _ := D8
      have E9 : Hid _ := D9
      have hse : w1.heap.size + 1 < WS.heap.size := heap_lt HSH.out
      have hme : w1.heap.size < WS.heap.size := heap_lt HMX.out
      have hwe := HWn.out
      obtain ⟨i23, hi23, hz23, hs23, hb23⟩ := info_parts Tryz.info23
      obtain ⟨i3, hi3, hz3, hs3, hy3⟩ := info_parts Tryz.info3
      clear D1 D3 D4 D5 D8 D9 hR
      go_upto_region 44 with (at_make; go_must (refine wpList_make_full _ rfl _ _ 56 rfl wo.heap.size 23 i23 (.slice none 0 0) 1 Tryz.underlying56 hi23 hz23 hs23 .i64 .i64 _ _ 1 rfl rfl rfl rfl (by rw [hb23]; omega) (by unfold maxLen; omega) (Nat.le_refl _) ?_); intro Y1 hown1 hgrow1; have HY1 : Hid _ := hown1; have hbY1 : Below wo.heap.size wo Y1 := (Below.refl _ _).grown hgrow1 (Nat.le_refl _) (fun k h => by cases h); have HS1 : Hid _ := (hbY1.block _ (heap_lt E4.out)).trans E4.out; have c2 := blk_c HS1.out (Below.refl _ _) (i := 2) rfl; have f2 := blk_f HS1.out (Below.refl _ _) 2; clear hown1 hgrow1)
      have HY1' : Hid (Y1.ownsRow wo.heap.size 23 1 (.slice (some ⟨wo.heap.size, 0, none⟩) 1 1) 1 [.slice none 0 0]) := by
        have e : (madeCells (Value.slice none 0 0).cells (1 * 1)).toList = [.slice none 0 0] := by
          rw [Nat.mul_one]
          exact toList_madeCells_one _ _
        show Y1.ownsRow _ _ _ _ _ _
        rw [← e]; exact HY1.out
      have HS2 : Hid ((Y1.setCell ⟨w1.heap.size + 1, 2, none⟩ (.slice (some ⟨wo.heap.size, 0, none⟩) 1 1)).heap[w1.heap.size + 1]? = some (.cells #[.slice (some ⟨w.heap.size, 0, none⟩) 1 1, .pointer (some ⟨w1.heap.size, 0, none⟩), .slice (some ⟨wo.heap.size, 0, none⟩) 1 1, .slice none 0 0] 58 (0, 0))) := setCell_blk HS1.out _
      have o12 : Hid (∀ q, q < wo.heap.size → q ≠ w1.heap.size + 1 → (Y1.setCell ⟨w1.heap.size + 1, 2, none⟩ (.slice (some ⟨wo.heap.size, 0, none⟩) 1 1)).heap[q]? = wo.heap[q]?) := fun q hq hne => (Below.heap_setCell _ _ _ _ hne).trans (hbY1.block q hq)
      have HI2 : Hid ((Y1.setCell ⟨w1.heap.size + 1, 2, none⟩ (.slice (some ⟨wo.heap.size, 0, none⟩) 1 1)).ownsRow wo.heap.size 23 1 (.slice (some ⟨wo.heap.size, 0, none⟩) 1 1) 1 [.slice none 0 0]) := owns_setCell HY1'.out (fun q hq => by cases hq; simp only; omega)
      have hbw2 : Below w.heap.size w (Y1.setCell ⟨w1.heap.size + 1, 2, none⟩ (.slice (some ⟨wo.heap.size, 0, none⟩) 1 1)) := (E1.out.trans (hbY1.mono E1.out.size)).setCell (by simp only; omega) _
      have hsz2 : Hid (wo.heap.size < (Y1.setCell ⟨w1.heap.size + 1, 2, none⟩ (.slice (some ⟨wo.heap.size, 0, none⟩) 1 1)).heap.size) := by have := ownsRow_lt HY1'.out _ rfl; show _ < _; simpa [World.setCell] using this
      generalize hY2 : Y1.setCell ⟨w1.heap.size + 1, 2, none⟩ (.slice (some ⟨wo.heap.size, 0, none⟩) 1 1) = Y2 at *
      clear hY2 c2 f2 HY1 HY1' HS1 hbY1
      have s0 := blk_c HS2.out (Below.refl _ _) (i := 0) rfl
      go_wp2_with fail
      go_loopw [196] (fun iv z => (iv = .int .i64 0 ∧ Hid (Y2 = z)) ∨ (iv = .int .i64 1 ∧ Hid (Fin1 w WS wo z w1.heap.size (w1.heap.size + 1) b))) (fun iv _ => 1 - (intOf iv).toNat)
      case atStart => exact .inl ⟨rfl, rfl⟩
      case round =>
        rcases hrel with ⟨rfl, hw0⟩ | ⟨rfl, hF⟩
        · have hw0' : Y2 = wr := hw0.out
          subst hw0'
          have hwo : w.heap.size < wo.heap.size := by omega
          have HN2 : Hid (Y2.ownsRow w.heap.size 71 1 (.slice (some ⟨w.heap.size, 0, none⟩) 1 1) 1 [.pointer (some ⟨b, 0, none⟩)]) := ownsRow_same E5.out (fun q hq => by cases hq; exact o12.out _ (by simp only; omega) (by simp only; omega))
          have n00 : Y2.cell? ⟨w.heap.size, 0, none⟩ = some (.pointer (some ⟨b, 0, none⟩)) := (HN2.out.cellAt 0 (by omega)).trans rfl
          have b15 := (E8.out Y2 (fun k h1 h2 => o12.out k h2 (by omega))).2
          have i00 : Y2.cell? ⟨wo.heap.size, 0, none⟩ = some (.slice none 0 0) := (HI2.out.cellAt 0 (by omega)).trans rfl
          have s2 := blk_c HS2.out (Below.refl _ _) (i := 2) rfl
          have s3 := blk_c HS2.out (Below.refl _ _) (i := 3) rfl
          go_wp2_with fail
          go_quiet (fail)
          go_upto_region 49 with (at_builtin; go_must (refine wpList_append_own _ rfl _ _ 23 rfl Y2.heap.size 3 i3 (.int .i64 0) 1 8 Tryz.underlying23 hi3 hz3 hs3 hy3 rfl (by decide) (.slice none 0 0) 0 [] rfl ⟨by simp, .inl ⟨rfl, rfl⟩⟩ ⟨Y2.heap.size, 0, none⟩ 1 1 [.int .i64 0] rfl rfl (cell_one_new (Y2.drewN _) _ _) (by intro u hu; simp at hu; subst hu; rfl) (by unfold maxLen; omega) (by omega) (by simp [World.drewN]) ?_); intro v' Y4 hown4 hgrow4 _; obtain ⟨gv, cv, rfl⟩ := owns_form' hown4 (by omega); have HV4 : Hid _ := hown4; have HG4 : Hid _ := hgrow4; have HS4 : Hid (Y4.heap[w1.heap.size + 1]? = some (.cells #[.slice (some ⟨w.heap.size, 0, none⟩) 1 1, .pointer (some ⟨w1.heap.size, 0, none⟩), .slice (some ⟨wo.heap.size, 0, none⟩) 1 1, .slice none 0 0] 58 (0, 0))) := grown_blk HG4.out (alloc_blk (w := Y2.drewN _) HS2.out _) (by simp [Value.ownBlock]); have c3 := blk_c HS4.out (Below.refl _ _) (i := 3) rfl; have f3 := blk_f HS4.out (Below.refl _ _) 3; clear hown4 hgrow4)
          have HS5 : Hid ((Y4.setCell ⟨w1.heap.size + 1, 3, none⟩ (.slice (some ⟨gv, 0, none⟩) 1 cv)).heap[w1.heap.size + 1]? = some (.cells #[.slice (some ⟨w.heap.size, 0, none⟩) 1 1, .pointer (some ⟨w1.heap.size, 0, none⟩), .slice (some ⟨wo.heap.size, 0, none⟩) 1 1, .slice (some ⟨gv, 0, none⟩) 1 cv] 58 (0, 0))) := setCell_blk HS4.out _
          have o25 : Hid (∀ q, q < Y2.heap.size → q ≠ w1.heap.size + 1 → (Y4.setCell ⟨w1.heap.size + 1, 3, none⟩ (.slice (some ⟨gv, 0, none⟩) 1 cv)).heap[q]? = Y2.heap[q]?) := fun q hq hne => by
            rw [Below.heap_setCell _ _ _ _ hne]
            refine (HG4.out.block q (by simp [World.drewN]; omega) (by simp [Value.ownBlock])).trans ?_
            exact heap_alloc_old (Y2.drewN _) _ hq
          have hgv := owns_block HV4.out gv rfl
          have lz2 := hsz2.out
          have HV5 : Hid ((Y4.setCell ⟨w1.heap.size + 1, 3, none⟩ (.slice (some ⟨gv, 0, none⟩) 1 cv)).ownsRow Y2.heap.size 3 1 (.slice (some ⟨gv, 0, none⟩) 1 cv) 1 [.int .i64 0]) := owns_setCell HV4.out (fun q hq => by cases hq; simp only; omega)
          have hsz5 : Y2.heap.size ≤ (Y4.setCell ⟨w1.heap.size + 1, 3, none⟩ (.slice (some ⟨gv, 0, none⟩) 1 cv)).heap.size := by
            have h1 := HG4.out.size
            have h2 : Y2.heap.size + 1 ≤ Y4.heap.size := by simpa [World.drewN] using h1
            simp [World.setCell]
            omega
          have hbw5 : Below w.heap.size w (Y4.setCell ⟨w1.heap.size + 1, 3, none⟩ (.slice (some ⟨gv, 0, none⟩) 1 cv)) := by
            refine RowKit.Below.setCell ?_ (by simp only; omega) _
            exact ((below_drewN hbw2 _).alloc (by simp [World.drewN]; omega) _).grown HG4.out (by simp [World.drewN]; omega) (fun q h => by cases h)
          generalize hY5 : Y4.setCell ⟨w1.heap.size + 1, 3, none⟩ (.slice (some ⟨gv, 0, none⟩) 1 cv) = Y5 at *
          clear hY5 c3 f3 HS4 HG4 HV4 s2 s3 s0
          have hgi5 : Hid (Y5.ownsRow wo.heap.size 23 1 (.slice (some ⟨wo.heap.size, 0, none⟩) 1 1) 1 [.slice none 0 0]) := ownsRow_same HI2.out (fun q hq => by cases hq; exact o25.out _ (by simp only; omega) (by simp only; omega))
          have b15' : Y5.cell? ⟨b, 15, none⟩ = some (.int .i64 0) := (E8.out Y5 (fun k h1 h2 => (o25.out k (by omega) (by omega)).trans (o12.out k h2 (by omega)))).2
          have q2 := blk_r HS5.out (i := 2) rfl
          have qb := cell_regrown b15'
          have qi := cell_regrown ((hgi5.out.cellAt 0 (by omega)).trans rfl : Y5.cell? ⟨wo.heap.size, 0, none⟩ = some (.slice none 0 0))
          refine Mix.wp_region_mix (Mix.mkKd [(19, .mk (fun u => ∃ g : Nat, u = .slice (some ⟨g, 0, none⟩) 1 1) (OneAt Y5.heap.size (.int .i64 0)) []), (20, .mk (fun u => ∃ g c : Nat, u = .slice (some ⟨g, 0, none⟩) 1 c) (fun _ _ => True) [19]), (21, .pur), (22, .wr)]) (by kernel_rfl) (by kernel_rfl) (Mix.makers_of ?_) ?_
          · intro p hp
            simp only [List.mem_cons, List.not_mem_nil, or_false] at hp
            rcases hp with rfl | rfl | rfl | rfl
            · exact ⟨oneAt_lasts _ _, _, _, rfl, rfl, by simp⟩
            · exact ⟨fun _ _ _ _ _ => trivial, _, _, rfl, rfl, by simp⟩
            · trivial
            · trivial
          iterate 19
            refine Mix.x_det rfl (fun K hK => ?_)
            go_simp
            refine hK _ ?_
            clear hK K
          refine Mix.x_mk _ _ _ rfl rfl (.slice (some ⟨0, 0, none⟩) 1 1) ⟨0, rfl⟩ (fun p _ => ?_) ?_
          · go_simp
            exact oneAt_alloc' _ _ _
          rintro u ⟨g19, rfl⟩
          refine Mix.x_mk _ _ _ rfl rfl (.slice (some ⟨0, 0, none⟩) 1 0) ⟨0, 0, rfl⟩ (fun p hd => ?_) ?_
          · obtain ⟨g, e, hB, hg⟩ := hd 19 (by simp) _ _ _ _ rfl rfl
            have e' : Value.slice (some ⟨g19, 0, none⟩) 1 1 = .slice (some ⟨g, 0, none⟩) 1 1 := e
            obtain rfl : g19 = g := by simpa using e'
            exact append_makes _ _ rfl rfl g19 0 rfl hg
          rintro u ⟨g20, c20, rfl⟩
          refine Mix.x_pur rfl (fun K hK => ?_)
          go_simp
          refine hK _ ?_
          clear hK K
          refine Mix.x_wr (fun Z => ∃ Z0, Below Y5.heap.size Y5 Z0 ∧ Z = Z0.setCell ⟨wo.heap.size, 0, none⟩ (.slice (some ⟨g20, 0, none⟩) 1 c20)) rfl rfl ?_ ?_
          · intro Z0 hZ0
            have hbz := hZ0.1
            have hIz := owns_below hgi5.out hbz
            have ci : Z0.cell? ⟨wo.heap.size, 0, none⟩ = some (.slice none 0 0) := (hIz.cellAt 0 (by omega)).trans rfl
            have fi := hIz.frozenAt 0
            clear hZ0 q2 qb qi
            go_simp
            exact ⟨Z0, hbz, rfl⟩
          rintro Z ⟨Z0, hbz, rfl⟩
          have FIN : Hid (Fin1 w WS wo (Z0.setCell ⟨wo.heap.size, 0, none⟩ (.slice (some ⟨g20, 0, none⟩) 1 c20)) w1.heap.size (w1.heap.size + 1) b) := by
            have oz : ∀ q, q < Y5.heap.size → q ≠ wo.heap.size → (Z0.setCell ⟨wo.heap.size, 0, none⟩ (.slice (some ⟨g20, 0, none⟩) 1 c20)).heap[q]? = Y5.heap[q]? := fun q hq hne => (Below.heap_setCell _ _ _ _ hne).trans (hbz.block q hq)
            have lz := hbz.size
            refine ⟨(hbw5.trans (hbz.mono (by omega))).setCell (by simp only; omega) _, by simp [World.setCell]; omega, fun k h1 h2 => ?_, ?_, ?_, .slice (some ⟨wo.heap.size, 0, none⟩) 1 1, gv, cv, ?_, ?_⟩
            · rw [oz k (by omega) (by omega), o25.out k (by omega) (by omega)]
              exact o12.out k h2 (by omega)
            · rw [oz _ (by omega) (by omega), o25.out _ (by omega) (by omega)]
              exact o12.out _ (by omega) (by omega)
            · refine ownsRow_same HN2.out (fun q hq => ?_)
              cases hq
              rw [oz _ (by simp only; omega) (by simp only; omega)]
              exact o25.out _ (by simp only; omega) (by simp only; omega)
            · rw [oz _ (by omega) (by omega)]
              exact HS5.out
            · have hv : (Z0.setCell ⟨wo.heap.size, 0, none⟩ (.slice (some ⟨g20, 0, none⟩) 1 c20)).ownsRow Y2.heap.size 3 1 (.slice (some ⟨gv, 0, none⟩) 1 cv) 1 [.int .i64 0] := owns_setCell (owns_below HV5.out hbz) (fun q hq => by cases hq; simp only; omega)
              exact (hv.cellAt 0 (by omega)).trans rfl
          clear q2 qb qi
          show Exit.inBlock _ _ _ _ _
          go_wp2_with fail
          go_roundw
          case rel => first | exact .inr ⟨by go_num, FIN.out⟩ | ((repeat apply Exists.intro); exact ⟨.inr ⟨by go_num, FIN.out⟩, rfl⟩)
          case measure => simp [intOf]
        · obtain ⟨F1, F2, F3, F4, F5, v2, gv, cv, F6, F7⟩ := hF.out
          have H1 : Hid _ := F1
          have H3 : Hid _ := F3
          have H4 : Hid _ := F4
          have H5 : Hid _ := F5
          have H6 : Hid _ := F6
          have H7 : Hid _ := F7
          clear F1 F3 F4 F5 F6 F7 hF
          go_wp2_with fail
          have hba : Below wr.heap.size wr (wr.alloc (.cells #[.int .i32 0, .int .u32 0, .pointer none, .int .i32 0, .int .u32 0, .map none, .pointer none, .pointer none, .pointer none, .nilIface, .int .i64 0] 96)) := below_alloc1 _ _
          have HL0 : Hid ((wr.alloc (.cells #[.int .i32 0, .int .u32 0, .pointer none, .int .i32 0, .int .u32 0, .map none, .pointer none, .pointer none, .pointer none, .nilIface, .int .i64 0] 96)).heap[wr.heap.size]? = some (.cells #[.int .i32 0, .int .u32 0, .pointer none, .int .i32 0, .int .u32 0, .map none, .pointer none, .pointer none, .pointer none, .nilIface, .int .i64 0] 96)) := heap_alloc_new wr _
          generalize hV : wr.alloc (.cells #[.int .i32 0, .int .u32 0, .pointer none, .int .i32 0, .int .u32 0, .map none, .pointer none, .pointer none, .pointer none, .nilIface, .int .i64 0] 96) = V at *
          clear hV
          have HS6 : Hid _ := (hba.block _ (heap_lt H6.out)).trans H6.out
          refine (storeShelf wr.heap.size 2 (w1.heap.size + 1) V _ _ (blk_c HL0.out (Below.refl _ _) (i := 2) rfl) (blk_f HL0.out (Below.refl _ _) 2) HS6.out rfl).mono ?_
          rintro e V2 ⟨rfl, hV2⟩
          have HV2 : Hid _ := hV2
          have oV : Hid (∀ q, q < wr.heap.size → V2.heap[q]? = wr.heap[q]?) := fun q hq => by
            rw [← HV2.out, Below.heap_setCell _ _ _ _ (by simp only; omega)]
            exact hba.block q hq
          have hbV : Hid (Below w.heap.size w V2) := by
            have := (H1.out.trans (hba.mono H1.out.size)).setCell (p := ⟨wr.heap.size, 2, none⟩) H1.out.size (.pointer (some ⟨w1.heap.size + 1, 0, none⟩))
            rw [HV2.out] at this
            exact this
          have hcV : Hid (V2.cell? ⟨wr.heap.size, 2, none⟩ = some (.pointer (some ⟨w1.heap.size + 1, 0, none⟩))) := by
            have h1 : V2.heap[wr.heap.size]? = some (.cells #[.int .i32 0, .int .u32 0, .pointer (some ⟨w1.heap.size + 1, 0, none⟩), .int .i32 0, .int .u32 0, .map none, .pointer none, .pointer none, .pointer none, .nilIface, .int .i64 0] 96 (0, 0)) := by
              rw [← HV2.out]
              exact setCell_blk HL0.out _
            exact blk_c h1 (Below.refl _ _) (i := 2) rfl
          clear hV2 hba HL0
          go_wp2_with fail
          go_ret
          have hsV := (oV.out _ (heap_lt H6.out)).trans H6.out
          have lo := H1.out.size
          have hN5 := ownsRow_same H5.out (fun q hq => by cases hq; exact oV.out _ (by simp only; have := ownsRow_lt H5.out _ rfl; omega))
          have hmV : V2.heap[w1.heap.size]? = some (.cells #[.slice none 0 0, .slice none 0 0, .int .i64 0] 55) := (oV.out _ (by omega)).trans (H4.out.trans E3.out)
          refine ⟨hbV.out, wr.heap.size, w1.heap.size + 1, w1.heap.size, b, _, nms, ps, fr, rfl, hcV.out, hsV, rfl, ⟨⟨w.heap.size, 0, 1, 1, blk_c hsV (Below.refl _ _) (i := 0) rfl, by omega, ?_⟩, blk_c hsV (Below.refl _ _) (i := 1) rfl, ⟨blk_c hmV (Below.refl _ _) (i := 0) rfl, blk_c hmV (Below.refl _ _) (i := 1) rfl, blk_c hmV (Below.refl _ _) (i := 2) rfl⟩⟩, (E8.out V2 (fun k h1 h2 => (oV.out k (by omega)).trans (H3.out k h1 h2))).1, ⟨gv, 0, cv, blk_c hsV (Below.refl _ _) (i := 3) rfl, ?_⟩, E9.out⟩
          · exact (hN5.cellAt 0 (by omega)).trans rfl
          · have h := H7.out
            have hl := cell_lt h
            unfold World.cell? at h ⊢
            rw [oV.out _ hl]
            exact h

end Go.Proofs.Qxb6612460aGreatFmt
