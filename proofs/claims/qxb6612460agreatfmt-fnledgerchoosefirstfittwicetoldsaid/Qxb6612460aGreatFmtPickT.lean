import Derived.Test.Qxb6612460aGreatFmtPick
namespace Go.Proofs.Qxb6612460aGreatFmt
open Go.RowKit Go.Sort
attribute [local go_sem] Option.isNone_none Option.isNone_some
attribute [local go_sem] sUpon mUpon

set_option maxRecDepth 100000 in
theorem memoryLeft0 (b id : Nat) (w : World) (h5 : w.cell? ⟨b, 5, none⟩ = some (.slice none 0 0)) :
    Calls Tryz.prog 55 #[.pointer (some ⟨b, 0, none⟩), .int .i64 id] w fun e w' => e = .returned (.int .i64 0) ∧ w = w' := by
  go_enter Tryz.func55, Tryz.ntmps55
  go_wp2_with fail
  go_ret
  exact ⟨rfl, rfl⟩

set_option maxRecDepth 100000 in
set_option maxHeartbeats 1000000 in
theorem tighter_same (b : Nat) (fr : List Nat) (w : World) (hF : FreeAt w b fr) (hi : 0 < fr.length) :
    Calls Tryz.prog 56 #[.pointer (some ⟨b, 0, none⟩), .int .i64 0, .int .i64 0] w fun e w' => e = .returned (.bool false) ∧ Below w.heap.size w w' := by
  obtain ⟨a, cap, h13, hr⟩ := hF
  obtain ⟨g, off, rfl, ci⟩ := row_nat hr 0 hi
  rw [Nat.add_zero] at ci
  have HR : Hid _ := hr
  clear hr
  generalize fr[0] = x at *
  have d1 : decide (x < x) = false := by simp
  go_enter Tryz.func56, Tryz.ntmps56
  go_wp2_with fail
  go_quiet (fail)
  go_wp2_with fail
  go_ret
  exact ⟨rfl, below_drewN (Below.refl _ _) _⟩
theorem tighter_sameR (b : Nat) (fr : List Nat) (w : World) (hF : FreeAt w b fr) (hi : 0 < fr.length) (d : Nat) (os : Array Obj) :
    Calls Tryz.prog 56 #[.pointer (some ⟨b, 0, none⟩), .int .i64 0, .int .i64 0] (grow (redrawn w d) os) fun e w'' => e = .returned (.bool false) ∧ ∃ p : Regrown, w'' = grow (redrawn w p.d) p.os :=
  Calls.regrown_of (tighter_same b fr _ (hF.below (below_regrown w d os)) hi)

/-- A row of zeros. -/
theorem row_zero {w : World} {a : Option Addr} {n : Nat} (h : RowAt w a (List.replicate n (.int .i64 0))) (k : Nat) (hk : k < n) :
    ∃ b off, a = some ⟨b, off, none⟩ ∧ w.cell? ⟨b, off + k, none⟩ = some (.int .i64 0) :=
  h k _ (by rw [List.getElem?_replicate, if_pos hk])

set_option maxRecDepth 100000 in
set_option maxHeartbeats 4000000 in
theorem pick_share (b : Nat) (cpu mem rc rm sh : Int) (across : Bool) (g : Nat) (fr : List Nat) (w : World) (hB : BooksAt w b cpu mem (List.replicate g (0, true)) fr) (h5 : w.cell? ⟨b, 5, none⟩ = some (.slice none 0 0)) (hc0 : 0 ≤ cpu) (hc1 : cpu ≤ 9223372036854775807) (hm0 : 0 ≤ mem) (hm1 : mem ≤ 9223372036854775807) (h : ¬ (cpu < rc ∨ mem < rm)) (hs0 : 0 < sh) (hs1 : sh < 1000)
    (hpl : g ≤ 65536) (hF : FrOf (List.replicate g (0, true)) fr) (hne : 0 < g) :
    Calls Tryz.prog 38 #[.pointer (some ⟨b, 0, none⟩), reqV rc rm 1 sh, .bool across] w (PickPost w (List.replicate g (0, true)) 1 (!across)) := by
  unfold reqV
  have HB : Hid (BooksAt w b cpu mem (List.replicate g (0, true)) fr) := hB
  have H5 : Hid (w.cell? ⟨b, 5, none⟩ = some (.slice none 0 0)) := h5
  have HF : Hid _ := hF
  have c1 := hB.c1
  have c2 := hB.c2
  have c6 := hB.c6
  have c7 := hB.c7
  obtain ⟨a8, cap8, c8, r8⟩ := hB.c8
  rw [List.length_replicate] at c8 r8
  have C8 : Hid _ := c8
  obtain ⟨g8, o8, rfl, -⟩ := row_zero r8 0 hne
  have HR8 : Hid (∀ k, k < g → w.cell? ⟨g8, o8 + k, none⟩ = some (.int .i64 0)) := fun k hk => by
    obtain ⟨b', off', e, hc⟩ := row_zero r8 k hk
    cases e
    exact hc
  obtain ⟨a12, cap12, c12, r12⟩ := hB.c12
  rw [List.length_replicate] at c12
  have h0' : (List.map (fun p : Nat × Bool => natV p.1) (List.replicate g (0, true)))[0]? = some (natV 0) := by rw [List.map_replicate, List.getElem?_replicate, if_pos hne]
  obtain ⟨g12, o12, rfl, -⟩ := r12 0 _ h0'
  have HR12 : Hid (∀ k, k < g → w.cell? ⟨g12, o12 + k, none⟩ = some (.int .i64 0)) := fun k hk => by
    have hk' : (List.map (fun p : Nat × Bool => natV p.1) (List.replicate g (0, true)))[k]? = some (natV 0) := by rw [List.map_replicate, List.getElem?_replicate, if_pos hk]
    obtain ⟨b', off', e, hc⟩ := r12 k _ hk'
    cases e
    exact hc
  have C12 : Hid _ := c12
  have hfr : 0 < fr.length := HF.out.2.1 (0, true) (by rw [List.mem_replicate]; exact ⟨by omega, rfl⟩)
  clear hB h5 hF r8 r12 c12 h0'
  have hlt := cell_lt c1
  simp only at hlt
  have d1 : decide (cpu < rc) = false := by simp; omega
  have d2 : decide (mem < rm) = false := by simp; omega
  have d3 : decide (0 < sh) = true := by simp; omega
  have d4 : decide (1000 < sh) = false := by simp; omega
  have HRQ : Hid ((w.alloc (.cells #[.int .i64 rc, .int .i64 rm, .int .i64 1, .int .i64 sh, .int .i64 0, .int .i64 0, .bool false, .string ⟨#[]⟩] 34)).heap[w.heap.size]? = some (.cells #[.int .i64 rc, .int .i64 rm, .int .i64 1, .int .i64 sh, .int .i64 0, .int .i64 0, .bool false, .string ⟨#[]⟩] 34)) := heap_alloc_new w _
  go_enter Tryz.func38, Tryz.ntmps38
  go_wp2_with fail
  go_quiet (fail)
  go_wp2_with fail
  go_loopw [54, 8] (fun iv bv wr => ∃ j : Nat, j ≤ g ∧ iv = .int .i64 j ∧ ((j = 0 ∧ bv = .int .i64 (-1)) ∨ ∃ i : Nat, i < j ∧ bv = .int .i64 i) ∧ Hid (Below w.heap.size w wr ∧ wr.heap[w.heap.size]? = some (.cells #[.int .i64 rc, .int .i64 rm, .int .i64 1, .int .i64 sh, .int .i64 0, .int .i64 0, .bool false, .string ⟨#[]⟩] 34))) (fun iv _ _ => g - (intOf iv).toNat)
  case atStart => exact ⟨0, Nat.zero_le _, rfl, .inl ⟨rfl, rfl⟩, below_drewN (below_alloc1 _ _) _, HRQ.out⟩
  case round =>
    clear c1 c2 c6 c7 c8 HRQ
    obtain ⟨j, hj, rfl, hbest, HW⟩ := hrel
    have hbw := HW.out.1
    by_cases hjl : j < g
    · have e8 := (hbw.cell (cell_lt C8.out)).trans C8.out
      have z8 := (hbw.cell (cell_lt (HR8.out j hjl))).trans (HR8.out j hjl)
      have e5 : Hid (wr.cell? ⟨b, 5, none⟩ = some (.slice none 0 0)) := (hbw.cell (cell_lt H5.out)).trans H5.out
      have q3 := blk_c HW.out.2 (Below.refl _ _) (i := 3) rfl
      have q4 := blk_c HW.out.2 (Below.refl _ _) (i := 4) rfl
      have q5 := blk_c HW.out.2 (Below.refl _ _) (i := 5) rfl
      go_wp2_with fail
      refine (memoryLeft0 b j wr e5.out).mono ?_
      rintro e w' ⟨rfl, rfl⟩
      go_wp2_with fail
      refine (healthy b j true wr ⟨_, _, _, e5.out, .inl ⟨rfl, rfl⟩⟩).mono ?_
      rintro e w' ⟨rfl, rfl⟩
      rcases hbest with ⟨rfl, rfl⟩ | ⟨i, hi, rfl⟩
      · go_wp2_with fail
        go_roundw
        case rel => first | exact ⟨0 + 1, by omega, by go_num, .inr ⟨0, by omega, rfl⟩, HW.out⟩ | ((repeat apply Exists.intro); exact ⟨⟨0 + 1, by omega, by go_num, .inr ⟨0, by omega, rfl⟩, HW.out⟩, rfl⟩)
        case measure => simp [intOf]; omega
      · have hig : i < g := by omega
        have z8i := (hbw.cell (cell_lt (HR8.out i hig))).trans (HR8.out i hig)
        have di : decide (i < 0) = false := by simp
        have HFR : Hid (FreeAt wr b fr) := HB.out.free.below hbw
        have e12 := (hbw.cell (cell_lt C12.out)).trans C12.out
        have i12 := (hbw.cell (cell_lt (HR12.out i hig))).trans (HR12.out i hig)
        have j12 := (hbw.cell (cell_lt (HR12.out j hjl))).trans (HR12.out j hjl)
        go_upto_region 15 with fail
        have r8 := cell_regrown e8
        have r8i := cell_regrown z8i
        have r12 := cell_regrown e12
        have r12i := cell_regrown i12
        have r12j := cell_regrown j12
        refine wp_region_quiet_list 27 (by kernel_rfl) (by kernel_rfl) (by kernel_rfl) ?_
        simp only [List.take_succ_cons, List.take_zero, List.drop_succ_cons, List.drop_zero]
        repeat (go_big_quiet_step (exact tighter_sameR b fr wr HFR.out hfr _ _))
        refine wpQuiet_nil ?_
        intro W5 hb5
        clear r8 r8i r12 r12i r12j e8 z8 z8i e12 i12 j12 q3 q4 q5
        have HW5 : Hid (Below w.heap.size w W5 ∧ W5.heap[w.heap.size]? = some (.cells #[.int .i64 rc, .int .i64 rm, .int .i64 1, .int .i64 sh, .int .i64 0, .int .i64 0, .bool false, .string ⟨#[]⟩] 34)) := ⟨hbw.trans (hb5.mono hbw.size), (hb5.block _ (heap_lt HW.out.2)).trans HW.out.2⟩
        go_wp2_with fail
        go_roundw
        case rel => first | exact ⟨j + 1, by omega, by go_num, .inr ⟨i, by omega, rfl⟩, HW5.out⟩ | ((repeat apply Exists.intro); exact ⟨⟨j + 1, by omega, by go_num, .inr ⟨i, by omega, rfl⟩, HW5.out⟩, rfl⟩)
        case measure => simp [intOf]; omega
    · obtain rfl : j = g := by omega
      rcases hbest with ⟨h0, -⟩ | ⟨i, hi, rfl⟩
      · omega
      have hn : ¬ (i : Int) < 0 := by omega
      have di : decide ((i : Int) < 0) = false := by simp
      have HGR : Hid (GrantedIds (List.replicate j (0, true)) 1 (!across) [i]) := ⟨rfl, ⟨by simp, fun id hid => by
        simp only [List.mem_singleton] at hid
        subst hid
        refine ⟨by simp; omega, (0, true), by rw [List.getElem?_replicate, if_pos hi], rfl⟩⟩, fun _ => ⟨0, fun id hid => by
        simp only [List.mem_singleton] at hid
        subst hid
        exact ⟨(0, true), by rw [List.getElem?_replicate, if_pos hi], rfl⟩⟩⟩
      go_wp2_with fail
      go_ret2
      refine ⟨⟨_, _, [i], rfl, ⟨rfl, .inr ⟨_, _, _, rfl, ?_, heap_alloc_new wr _, ?_⟩⟩, HGR.out⟩, ?_⟩
      · exact hbw.size
      · exact ⟨Nat.le_refl _, by decide, rfl, rfl⟩
      · exact hbw.trans ((below_alloc1 wr _).mono hbw.size)

end Go.Proofs.Qxb6612460aGreatFmt
