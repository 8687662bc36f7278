import Derived.Test.Qxb6612460aGreatFmtNewNP
import Derived.Test.Qxb6612460aGreatFmtAlike
namespace Go.Proofs.Qxb6612460aGreatFmt
open Go.RowKit Go.Sort
attribute [local go_sem] Option.isNone_none Option.isNone_some
attribute [local go_sem] sUpon mUpon
attribute [local go_sem] Mix.isVal Mix.makes MixC.makes

/-- The new ledger holds the nodes; its shelf hangs on older blocks alone. -/
def NewPostM (w : World) (ns : List Nd) (e : Ending) (w' : World) : Prop :=
  Below w.heap.size w w' ∧ ∃ (l s m : Nat) (cs : Array Value), e = .returned (.pointer (some ⟨l, 0, none⟩)) ∧ w.heap.size ≤ l ∧
    w'.heap[l]? = some (.cells #[.int .i32 0, .int .u32 0, .pointer (some ⟨s, 0, none⟩), .int .i32 0, .int .u32 0, .map none, .pointer none, .pointer none, .pointer none, .nilIface, .int .i64 0] 96 (0, 0)) ∧
    cs.size = 4 ∧ cs[0]? = some (.slice (some ⟨w.heap.size, 0, none⟩) ns.length ns.length) ∧ s < l ∧ ∀ Z : World, (∀ q, q < l → Z.heap[q]? = w'.heap[q]?) → ShelfAt Z s m ns (vsOf ns ns.length) ∧ Z.heap[s]? = some (.cells cs 58 (0, 0))

set_option maxRecDepth 1000000 in
set_option maxHeartbeats 8000000 in
theorem newLedgerM (nb nc : Nat) (ns : List Nd) (w : World) (hN : NodesIn w nb ns) (hnn : ns.length ≤ 65536)
    (hbd : ∀ n ∈ ns, 0 ≤ n.1 ∧ n.1 ≤ 9223372036854775807 ∧ 0 ≤ n.2.1 ∧ n.2.1 ≤ 9223372036854775807 ∧ n.2.2 ≤ 65536) :
    Calls Tryz.prog 9 #[.slice (some ⟨nb, 0, none⟩) ns.length nc] w (NewPostM w ns) := by
  have HNIN : Hid (NodesIn w nb ns) := hN
  have HBD : Hid (∀ n ∈ ns, 0 ≤ n.1 ∧ n.1 ≤ 9223372036854775807 ∧ 0 ≤ n.2.1 ∧ n.2.1 ≤ 9223372036854775807 ∧ n.2.2 ≤ 65536) := hbd
  have HP : Hid (∀ e w', NewPostM w ns e w' → NewPostM w ns e w') := fun _ _ h => h
  clear hN hbd
  obtain ⟨i71, hi71, hz71, hs71, hb71⟩ := info_parts Tryz.info71
  have hmm := @run_makeMap Tryz.prog
  go_enter Tryz.func9, Tryz.ntmps9
  go_wp2_with (at_make; go_must (refine wpList_make_full _ rfl _ _ 51 rfl w.heap.size 71 i71 (.pointer none) 1 Tryz.underlying51 hi71 hz71 hs71 .i64 .i64 _ _ ns.length rfl rfl rfl rfl (by rw [hb71]; omega) (by unfold maxLen; omega) (Nat.le_refl _) ?_); intro w1 hown1 hgrow1)
  have hbA : Below w.heap.size w w1 := (Below.refl _ _).grown hgrow1 (Nat.le_refl _) (fun k h => by cases h)
  have hbB : Below w1.heap.size w1 (((w1.alloc (.cells #[.slice none 0 0, .slice none 0 0, .int .i64 0] 55)).alloc (.cells #[.slice (some ⟨w.heap.size, 0, none⟩) ns.length ns.length, .pointer (some ⟨w1.heap.size, 0, none⟩), .slice none 0 0, .slice none 0 0] 58)).alloc (.map #[] 0)) := ((below_alloc1 _ _).alloc (by simp) _).alloc (by simp; omega) _
  have HOW1 : Hid (w1.ownsRow w.heap.size 71 1 (.slice (some ⟨w.heap.size, 0, none⟩) ns.length ns.length) ns.length (ptrs ns.length [])) := by
    have e : (madeCells (Value.pointer none).cells (ns.length * 1)).toList = ptrs ns.length [] := by
      rw [Nat.mul_one]
      refine (toList_madeCells_one _ _).trans ?_
      simp [ptrs]
    rw [← e]; exact hown1
  have HMX : Hid ((((w1.alloc (.cells #[.slice none 0 0, .slice none 0 0, .int .i64 0] 55)).alloc (.cells #[.slice (some ⟨w.heap.size, 0, none⟩) ns.length ns.length, .pointer (some ⟨w1.heap.size, 0, none⟩), .slice none 0 0, .slice none 0 0] 58)).alloc (.map #[] 0)).heap[w1.heap.size]? = some (.cells #[.slice none 0 0, .slice none 0 0, .int .i64 0] 55)) := by
    show _ = _
    rw [heap_alloc_old _ _ (by simp; omega), heap_alloc_old _ _ (by simp), heap_alloc_new]
  have HSH : Hid ((((w1.alloc (.cells #[.slice none 0 0, .slice none 0 0, .int .i64 0] 55)).alloc (.cells #[.slice (some ⟨w.heap.size, 0, none⟩) ns.length ns.length, .pointer (some ⟨w1.heap.size, 0, none⟩), .slice none 0 0, .slice none 0 0] 58)).alloc (.map #[] 0)).heap[w1.heap.size + 1]? = some (.cells #[.slice (some ⟨w.heap.size, 0, none⟩) ns.length ns.length, .pointer (some ⟨w1.heap.size, 0, none⟩), .slice none 0 0, .slice none 0 0] 58)) := by
    show _ = _
    rw [heap_alloc_old _ _ (by simp)]
    exact heap_alloc2_new w1 _ _
  have HFM : Hid ((((w1.alloc (.cells #[.slice none 0 0, .slice none 0 0, .int .i64 0] 55)).alloc (.cells #[.slice (some ⟨w.heap.size, 0, none⟩) ns.length ns.length, .pointer (some ⟨w1.heap.size, 0, none⟩), .slice none 0 0, .slice none 0 0] 58)).alloc (.map #[] 0)).heap[w1.heap.size + 1 + 1]? = some (.map #[] 0)) := by
    have := heap_alloc_new ((w1.alloc (.cells #[.slice none 0 0, .slice none 0 0, .int .i64 0] 55)).alloc (.cells #[.slice (some ⟨w.heap.size, 0, none⟩) ns.length ns.length, .pointer (some ⟨w1.heap.size, 0, none⟩), .slice none 0 0, .slice none 0 0] 58)) (.map #[] 0)
    show _ = _
    simpa using this
  have hszS : (((w1.alloc (.cells #[.slice none 0 0, .slice none 0 0, .int .i64 0] 55)).alloc (.cells #[.slice (some ⟨w.heap.size, 0, none⟩) ns.length ns.length, .pointer (some ⟨w1.heap.size, 0, none⟩), .slice none 0 0, .slice none 0 0] 58)).alloc (.map #[] 0)).heap.size = w1.heap.size + 3 := by simp
  generalize hW0 : (((w1.alloc (.cells #[.slice none 0 0, .slice none 0 0, .int .i64 0] 55)).alloc (.cells #[.slice (some ⟨w.heap.size, 0, none⟩) ns.length ns.length, .pointer (some ⟨w1.heap.size, 0, none⟩), .slice none 0 0, .slice none 0 0] 58)).alloc (.map #[] 0)) = W0 at *
  have HSZ : Hid (W0.heap.size = w1.heap.size + 3) := hszS
  clear hW0 hown1 hgrow1 hszS
  have hl1 := hbA.size
  have hbC : Below w.heap.size w W0 := hbA.trans (hbB.mono hl1)
  have HNG : Hid (W0.ownsRow w.heap.size 71 1 (.slice (some ⟨w.heap.size, 0, none⟩) ns.length ns.length) ns.length (ptrs ns.length [])) := owns_below HOW1.out hbB
  have hng : w.heap.size < w1.heap.size := ownsRow_lt HOW1.out _ rfl
  have HWn : Hid (w.heap.size < W0.heap.size) := by show _ < _; have := HSZ.out; omega
  clear hbB hbA HOW1
  have HR0 : Hid (RunN w W0.heap.size w1.heap.size (w1.heap.size + 1) (w1.heap.size + 1 + 1) ns 0 [] [] W0) := ⟨hbC, Nat.le_refl _, HMX.out, HSH.out, HNG.out, rfl, ⟨#[], HFM.out, rfl, fun i e h => by simp at h⟩, .nil, Nat.le_refl _, fun w' _ => ⟨fun t b nd h => by simp at h, fun i nd g c h => by simp at h⟩⟩
  have hw13 : W0.heap.size = w1.heap.size + 3 := HSZ.out
  clear HMX HSH HFM HNG HSZ HWn
  go_loopw [5, 30] (fun sp iv wr => ∃ (jo : Nat) (F : Fs) (bs : List Nat), jo ≤ ns.length ∧ iv = .int .i64 jo ∧ sp = .int .i64 (F.length : Nat) ∧ Hid (RunN w W0.heap.size w1.heap.size (w1.heap.size + 1) (w1.heap.size + 1 + 1) ns jo F bs wr)) (fun _ iv _ => ns.length - (intOf iv).toNat)
  case atStart => exact ⟨0, [], [], Nat.zero_le _, rfl, rfl, HR0.out⟩
  case round =>
    clear HR0
    obtain ⟨jo, F, bs, hjo, rfl, rfl, HR⟩ := hrel
    obtain ⟨WS, hws⟩ : ∃ WS, WS = wr := ⟨_, rfl⟩
    subst hws
    have hbC : Below w.heap.size w WS := HR.out.low
    have HMX : Hid _ := HR.out.mix
    have HSH : Hid _ := HR.out.shelf
    have HFM : Hid (MapIs3 WS (w1.heap.size + 1 + 1) (esOf F)) := HR.out.map
    have HNG : Hid _ := HR.out.nodes
    have hW0 : W0.heap.size ≤ WS.heap.size := HR.out.size
    have hFl : F.length ≤ jo := HR.out.few
    have HWn : Hid (w.heap.size < WS.heap.size) := by show _ < _; omega
    by_cases hjol : jo < ns.length
    · obtain ⟨⟨cpu, mem, gn⟩, hnd⟩ : ∃ nd, ns[jo]? = some nd := ⟨ns[jo], List.getElem?_eq_getElem hjol⟩
      have HND0 : Hid (ns[jo]? = some (cpu, mem, gn)) := hnd
      obtain ⟨hc0, hc1, hm0, hm1, hn⟩ := HBD.out _ (List.mem_of_getElem? hnd)
      simp only at hc0 hc1 hm0 hm1 hn
      have HNW := HNIN.out.below hbC (Nat.le_refl _)
      have m0 : WS.cell? ⟨nb, jo * 6, none⟩ = some (.string ⟨#[]⟩) := HNW jo _ hnd 0 _ rfl
      have m1 : WS.cell? ⟨nb, jo * 6 + 1, none⟩ = some (.int .i64 cpu) := HNW jo _ hnd 1 _ rfl
      have m2 : WS.cell? ⟨nb, jo * 6 + 2, none⟩ = some (.int .i64 mem) := HNW jo _ hnd 2 _ rfl
      have m3 : WS.cell? ⟨nb, jo * 6 + 3, none⟩ = some (.int .i64 (gn : Nat)) := HNW jo _ hnd 3 _ rfl
      have m4 : WS.cell? ⟨nb, jo * 6 + 4, none⟩ = some (.string ⟨#[]⟩) := HNW jo _ hnd 4 _ rfl
      have m5 : WS.cell? ⟨nb, jo * 6 + 5, none⟩ = some (.slice none 0 0) := HNW jo _ hnd 5 _ rfl
      clear HNW hnd
      go_upto_region 7 with fail
      have hbD : Below WS.heap.size WS (WS.alloc (.cells #[.string ⟨#[]⟩, .int .i64 cpu, .int .i64 mem, .int .i64 (gn : Nat), .string ⟨#[]⟩, .slice none 0 0] 48)) := below_alloc1 _ _
      have HN7 : Hid ((WS.alloc (.cells #[.string ⟨#[]⟩, .int .i64 cpu, .int .i64 mem, .int .i64 (gn : Nat), .string ⟨#[]⟩, .slice none 0 0] 48)).heap[WS.heap.size]? = some (.cells #[.string ⟨#[]⟩, .int .i64 cpu, .int .i64 mem, .int .i64 (gn : Nat), .string ⟨#[]⟩, .slice none 0 0] 48)) := heap_alloc_new WS _
      generalize hWX : WS.alloc (.cells #[.string ⟨#[]⟩, .int .i64 cpu, .int .i64 mem, .int .i64 (gn : Nat), .string ⟨#[]⟩, .slice none 0 0] 48) = WX at *
      clear hWX m0 m1 m2 m3 m4 m5
      have p3 := blk_c HN7.out (Below.refl _ _) (i := 3) rfl
      have p5 := blk_c HN7.out (Below.refl _ _) (i := 5) rfl
      go_cut [30, 46] from 30 to 185 (fun iv v wx => iv = .int .i64 jo ∧ v = .bool false ∧ WX = wx)
      case first =>
        go_wp2_with fail
        go_meet
        exact ⟨rfl, rfl, rfl⟩
      case rest =>
      obtain ⟨rfl, rfl, rfl⟩ := hcut
      obtain ⟨i46, hi46, hz46, hs46, hb46⟩ := info_parts Tryz.info46
      have f5 := blk_f HN7.out (Below.refl _ _) 5
      go_upto_region 10 with (at_builtin; go_must (refine wpList_append_own_none rfl _ _ 44 rfl WX.heap.size 46 i46 4 Tryz.underlying44 hi46 (.slice none 0 0) 0 [] rfl ⟨by simp, .inl ⟨rfl, rfl⟩⟩ rfl ?_))
      have HN5 : Hid ((WX.setCell ⟨WS.heap.size, 5, none⟩ (.slice none 0 0)).heap[WS.heap.size]? = some (.cells #[.string ⟨#[]⟩, .int .i64 cpu, .int .i64 mem, .int .i64 (gn : Nat), .string ⟨#[]⟩, .slice none 0 0] 48)) := setCell_blk HN7.out _
      have hb5 : Below WS.heap.size WS (WX.setCell ⟨WS.heap.size, 5, none⟩ (.slice none 0 0)) := hbD.setCell (Nat.le_refl _) _
      have hWXs : WS.heap.size < WX.heap.size := heap_lt HN7.out
      have hsz5 : WX.heap.size ≤ (WX.setCell ⟨WS.heap.size, 5, none⟩ (.slice none 0 0)).heap.size := by simp [World.setCell]
      generalize hW5 : WX.setCell ⟨WS.heap.size, 5, none⟩ (.slice none 0 0) = W5 at *
      clear hW5 p3 p5 f5 hbD
      have r0 := blk_r HN5.out (i := 0) rfl
      have r1 := blk_r HN5.out (i := 1) rfl
      have r2 := blk_r HN5.out (i := 2) rfl
      have r3 := blk_r HN5.out (i := 3) rfl
      have r4 := blk_r HN5.out (i := 4) rfl
      have r5 := blk_r HN5.out (i := 5) rfl
      obtain ⟨i2, hi2, hz2, hs2, hy2⟩ := info_parts Tryz.info2
      obtain ⟨i4, hi4, hz4, hs4, hy4⟩ := info_parts Tryz.info4
      obtain ⟨i3, hi3, hz3, hs3, hy3⟩ := info_parts Tryz.info3
      refine Mix.wp_region_mix (Mix.mkKd [(3, .mk (IsRow gn) (MadeAt W5.heap.size 2 (.int .i64 0) gn) []), (6, .mk (IsRow gn) (MadeAt W5.heap.size 2 (.int .i64 0) gn) []), (9, .mk (IsRow gn) (MadeAt W5.heap.size 4 (.bool false) gn) []), (12, .mk (IsRow gn) (MadeAt W5.heap.size 3 (.int .i64 0) gn) []), (13, .pur), (14, .mk (fun u => ∃ g : Nat, u = .pointer (some ⟨g, 0, none⟩)) (newBlock W5 #[.string ⟨#[]⟩, .int .i64 0, .int .i64 0, .int .i64 0, .string ⟨#[]⟩, .slice none 0 0, .int .i64 0, .int .i64 0, .slice none 0 0, .slice none 0 0, .slice none 0 0, .int .i64 0, .slice none 0 0, .slice none 0 0, .int .u64 0, .int .i64 0, .int .i64 0, .int .i64 0, .int .i64 0, .int .i64 0, .slice none 0 0, .int .i64 0, .bool false, .int .i64 0] 66) []), (15, .wr)]) (by kernel_rfl) (by kernel_rfl) (Mix.makers_of ?_) ?_
      · intro p hp
        simp only [List.mem_cons, List.not_mem_nil, or_false] at hp
        rcases hp with rfl | rfl | rfl | rfl | rfl | rfl | rfl
        · exact ⟨madeAt_lasts _ _ _ _, _, _, rfl, rfl, by simp⟩
        · exact ⟨madeAt_lasts _ _ _ _, _, _, rfl, rfl, by simp⟩
        · exact ⟨madeAt_lasts _ _ _ _, _, _, rfl, rfl, by simp⟩
        · exact ⟨madeAt_lasts _ _ _ _, _, _, rfl, rfl, by simp⟩
        · trivial
        · exact ⟨newBlock_lasts _ _ _, _, _, rfl, rfl, by simp⟩
        · trivial
      iterate 3
        refine Mix.x_det rfl (fun K hK => ?_)
        go_simp
        refine hK _ ?_
        clear hK K
      refine Mix.x_mk _ _ _ rfl rfl (.slice (some ⟨0, 0, none⟩) gn gn) ⟨0, rfl⟩ (fun p _ => make_makes _ _ 22 rfl 2 i2 _ Tryz.underlying22 hi2 hz2 hs2 hy2 (by decide) .i64 .i64 gn rfl rfl hn (below_regrown W5 p.d p.os).size rfl) ?_
      rintro u ⟨g8, rfl⟩
      iterate 2
        refine Mix.x_det rfl (fun K hK => ?_)
        go_simp
        refine hK _ ?_
        clear hK K
      refine Mix.x_mk _ _ _ rfl rfl (.slice (some ⟨0, 0, none⟩) gn gn) ⟨0, rfl⟩ (fun p _ => make_makes _ _ 22 rfl 2 i2 _ Tryz.underlying22 hi2 hz2 hs2 hy2 (by decide) .i64 .i64 gn rfl rfl hn (below_regrown W5 p.d p.os).size rfl) ?_
      rintro u ⟨g9, rfl⟩
      iterate 2
        refine Mix.x_det rfl (fun K hK => ?_)
        go_simp
        refine hK _ ?_
        clear hK K
      refine Mix.x_mk _ _ _ rfl rfl (.slice (some ⟨0, 0, none⟩) gn gn) ⟨0, rfl⟩ (fun p _ => make_makes _ _ 42 rfl 4 i4 _ Tryz.underlying42 hi4 hz4 hs4 hy4 (by decide) .i64 .i64 gn rfl rfl hn (below_regrown W5 p.d p.os).size rfl) ?_
      rintro u ⟨g10, rfl⟩
      iterate 2
        refine Mix.x_det rfl (fun K hK => ?_)
        go_simp
        refine hK _ ?_
        clear hK K
      refine Mix.x_mk _ _ _ rfl rfl (.slice (some ⟨0, 0, none⟩) gn gn) ⟨0, rfl⟩ (fun p _ => make_makes _ _ 23 rfl 3 i3 _ Tryz.underlying23 hi3 hz3 hs3 hy3 (by decide) .i64 .i64 gn rfl rfl hn (below_regrown W5 p.d p.os).size rfl) ?_
      rintro u ⟨gi, rfl⟩
      refine Mix.x_pur rfl (fun K hK => ?_)
      go_simp
      refine hK _ ?_
      clear hK K
      refine Mix.x_mk _ _ _ rfl rfl (.pointer (some ⟨0, 0, none⟩)) ⟨0, rfl⟩ (fun p _ => ?_) ?_
      · go_simp
        exact newBlock_alloc' _ _ _ _
      rintro u ⟨b, rfl⟩
      refine Mix.x_wr (fun W6 => Below W5.heap.size W5 W6 ∧ W5.heap.size ≤ b ∧ W6.heap[b]? = some (.cells #[.string ⟨#[]⟩, .int .i64 cpu, .int .i64 mem, .int .i64 (gn : Nat), .string ⟨#[]⟩, .slice none 0 0, .int .i64 0, .int .i64 0, (.slice (some ⟨g8, 0, none⟩) gn gn), (.slice (some ⟨g9, 0, none⟩) gn gn), (.slice (some ⟨g10, 0, none⟩) gn gn), .int .i64 0, (.slice (some ⟨gi, 0, none⟩) gn gn), .slice none 0 0, .int .u64 0, .int .i64 0, .int .i64 0, .int .i64 0, .int .i64 0, .int .i64 0, .slice none 0 0, .int .i64 0, .bool false, .int .i64 0] 66 (0, 0)) ∧ W6.ownsRow W5.heap.size 2 1 (.slice (some ⟨g8, 0, none⟩) gn gn) gn (List.replicate gn (.int .i64 0)) ∧ W6.ownsRow W5.heap.size 3 1 (.slice (some ⟨gi, 0, none⟩) gn gn) gn (List.replicate gn (.int .i64 0))) rfl rfl ?_ ?_
      · intro W6 hW6
        obtain ⟨hb6, hk6⟩ := hW6
        obtain ⟨g2, he2, hg2, hblk⟩ := hk6 14 _ _ _ _ rfl rfl rfl
        have he2' : Value.pointer (some ⟨b, 0, none⟩) = .pointer (some ⟨g2, 0, none⟩) := he2
        obtain rfl : b = g2 := by simpa using he2'
        have ho8 : W6.ownsRow W5.heap.size 2 1 (.slice (some ⟨g8, 0, none⟩) gn gn) gn (List.replicate gn (.int .i64 0)) := hk6 3 _ _ _ _ rfl rfl rfl
        have ho12 : W6.ownsRow W5.heap.size 3 1 (.slice (some ⟨gi, 0, none⟩) gn gn) gn (List.replicate gn (.int .i64 0)) := hk6 12 _ _ _ _ rfl rfl rfl
        refine ⟨_, store_runs 66 _ _ rfl b #[.string ⟨#[]⟩, .int .i64 cpu, .int .i64 mem, .int .i64 (gn : Nat), .string ⟨#[]⟩, .slice none 0 0, .int .i64 0, .int .i64 0, (.slice (some ⟨g8, 0, none⟩) gn gn), (.slice (some ⟨g9, 0, none⟩) gn gn), (.slice (some ⟨g10, 0, none⟩) gn gn), .int .i64 0, (.slice (some ⟨gi, 0, none⟩) gn gn), .slice none 0 0, .int .u64 0, .int .i64 0, .int .i64 0, .int .i64 0, .int .i64 0, .int .i64 0, .slice none 0 0, .int .i64 0, .bool false, .int .i64 0] rfl rfl 66 _ hblk (by kernel_rfl) rfl (by simp [Value.oneCell']), ?_, hg2, setRow_heap W6 b _ _ 66 _ hblk, owns_setRow ho8 hblk (by decide) _, owns_setRow ho12 hblk (by decide) _⟩
        exact hb6.trans ⟨rfl, rfl, rfl, by simp [World.setRow], fun q hq => setRow_other W6 b q _ (by omega)⟩
      intro W6 hW6
      obtain ⟨hb6, hb5b, hbk6, ho8, ho12⟩ := hW6
      clear r0 r1 r2 r3 r4 r5
      have HBK6 : Hid _ := hbk6
      have HO8 : Hid _ := ho8
      have HO12 : Hid _ := ho12
      clear hbk6 ho8 ho12
      show Exit.then _ _ _ _ _
      go_upto_region 12 with fail
      have hb7 : Below W6.heap.size W6 (W6.alloc (.map #[] 0)) := below_alloc1 _ _
      have HM7 : Hid (MapIs (W6.alloc (.map #[] 0)) W6.heap.size (ent [])) := ⟨#[], 0, heap_alloc_new W6 _, rfl⟩
      generalize hW7 : W6.alloc (.map #[] 0) = W7 at *
      clear hW7
      have lb := heap_lt HBK6.out
      have lgi := ownsRow_lt HO12.out gi rfl
      have bgi := owns_block HO12.out gi rfl
      have HG7 : Hid (b < W7.heap.size ∧ gi < W7.heap.size ∧ W6.heap.size < W7.heap.size ∧ gi < W6.heap.size) := ⟨by have := hb7.size; omega, by have := hb7.size; omega, HM7.out.lt, lgi⟩
      have HG7b : Hid (b < W6.heap.size) := lb
      have HBG : Hid (b ≠ gi) := fun e => by
        have h1 := owns_ne HO12.out HBK6.out (by decide) gi rfl
        exact h1 e.symm
      have HNb : Hid (WS.heap.size ∉ [b, gi, W6.heap.size]) := by
        have := hb6.size
        show ¬ _
        simp only [List.mem_cons, List.not_mem_nil, or_false, not_or]
        exact ⟨by omega, by omega, by omega⟩
      have hb57 : Below W5.heap.size W5 W7 := hb6.trans (hb7.mono hb6.size)
      have HN7' : Hid (W7.heap[WS.heap.size]? = some (.cells #[.string ⟨#[]⟩, .int .i64 cpu, .int .i64 mem, .int .i64 (gn : Nat), .string ⟨#[]⟩, .slice none 0 0] 48 (0, 0))) := (hb57.block _ (heap_lt HN5.out)).trans HN5.out
      have HBK7 : Hid (W7.heap[b]? = some (.cells #[.string ⟨#[]⟩, .int .i64 cpu, .int .i64 mem, .int .i64 (gn : Nat), .string ⟨#[]⟩, .slice none 0 0, .int .i64 0, .int .i64 0, (.slice (some ⟨g8, 0, none⟩) gn gn), (.slice (some ⟨g9, 0, none⟩) gn gn), (.slice (some ⟨g10, 0, none⟩) gn gn), .int .i64 0, (.slice (some ⟨gi, 0, none⟩) gn gn), .slice none 0 0, .int .u64 0, .int .i64 0, .int .i64 0, .int .i64 0, .int .i64 0, .int .i64 0, .slice none 0 0, .int .i64 0, .bool false, .int .i64 0] 66 (0, 0))) := (hb7.block _ lb).trans HBK6.out
      have HIS7 : Hid (W7.ownsRow W5.heap.size 3 1 (.slice (some ⟨gi, 0, none⟩) gn gn) gn ((List.replicate gn 0).map natV)) := by
        show W7.ownsRow _ _ _ _ _ _
        rw [List.map_replicate]
        exact owns_below HO12.out hb7
      have l65 := hb6.size
      have l76 := hb7.size
      have HG8 : Hid (g8 ∉ [b, gi, W6.heap.size]) := by
        have h1 := ownsRow_lt HO8.out g8 rfl
        have h2 := owns_ne HO8.out HBK6.out (by decide) g8 rfl
        have h3 : g8 ≠ gi := by
          obtain ⟨-, h | ⟨g, cap, cur, e1, -, e3, -⟩⟩ := HO12.out
          · cases h.1
          · cases e1
            exact owns_ne HO8.out e3 (by decide) g8 rfl
        show ¬ _
        simp only [List.mem_cons, List.not_mem_nil, or_false, not_or]
        exact ⟨h2, h3, by omega⟩
      have HO87 : Hid (W7.ownsRow W5.heap.size 2 1 (.slice (some ⟨g8, 0, none⟩) gn gn) gn (List.replicate gn (.int .i64 0))) := owns_below HO8.out hb7
      have lw5 := hb5.size
      have hbS7 : Below WS.heap.size WS W7 := hb5.trans (hb57.mono lw5)
      have HLow : Hid (∀ q, q < WS.heap.size → q ∉ [b, gi, W6.heap.size]) := fun q hq => by
        simp only [List.mem_cons, List.not_mem_nil, or_false, not_or]
        exact ⟨by omega, by omega, by omega⟩
      have HMX7 : Hid _ := (hbS7.block _ (heap_lt HMX.out)).trans HMX.out
      have HSH7 : Hid _ := (hbS7.block _ (heap_lt HSH.out)).trans HSH.out
      have HFM7 : Hid (MapIs3 W7 (w1.heap.size + 1 + 1) (esOf F)) := HFM.out.kept (hbS7.block _ HFM.out.lt)
      have HNG7 : Hid _ := owns_below HNG.out hbS7
      have HGI5 : Hid (W5.heap.size ≤ gi) := bgi
      clear hb6 hb7 lb lgi bgi HN5 HN7 HO12 HBK6 HO8
      have p3 := blk_c HN7'.out (Below.refl _ _) (i := 3) rfl
      go_wp2_with fail
      go_loopw [81] (fun iv wr => ∃ (j : Nat) (nms : List ByteArray) (ps : List (Nat × Bool)) (fr : List Nat) (v13 : Value), j ≤ gn ∧ iv = .int .i64 j ∧ Hid (St (List.replicate j noDev) nms ps fr) ∧ Hid (∀ x ∈ nms, x = (⟨#[]⟩ : ByteArray)) ∧ Hid (wr.heap[b]? = some (.cells #[.string ⟨#[]⟩, .int .i64 cpu, .int .i64 mem, .int .i64 (gn : Nat), .string ⟨#[]⟩, .slice none 0 0, .int .i64 0, .int .i64 0, (.slice (some ⟨g8, 0, none⟩) gn gn), (.slice (some ⟨g9, 0, none⟩) gn gn), (.slice (some ⟨g10, 0, none⟩) gn gn), .int .i64 (sumN fr : Nat), (.slice (some ⟨gi, 0, none⟩) gn gn), v13, .int .u64 0, .int .i64 0, .int .i64 0, .int .i64 0, .int .i64 0, .int .i64 0, .slice none 0 0, .int .i64 0, .bool false, .int .i64 0] 66 (0, 0)) ∧ wr.ownsRow W7.heap.size 3 1 v13 fr.length (fr.map natV) ∧ (∃ xs : List Nat, wr.ownsRow W5.heap.size 3 1 (.slice (some ⟨gi, 0, none⟩) gn gn) gn (xs.map natV) ∧ ∀ (i : Nat) (p : Nat × Bool), ps[i]? = some p → xs[i]? = some p.1) ∧ MapIs wr W6.heap.size (ent nms) ∧ OnlyS [b, gi, W6.heap.size] W7 wr)) (fun iv _ => gn - (intOf iv).toNat)
      case atStart => exact ⟨0, [], [], [], .slice none 0 0, Nat.zero_le _, rfl, St.nil, fun x hx => by simp at hx, HBK7.out, ⟨by simp, .inl ⟨rfl, rfl⟩⟩, ⟨_, HIS7.out, fun i p hp => by simp at hp⟩, HM7.out, OnlyS.refl _ _⟩
      case round =>
        clear p3 HBK7 HIS7 HM7
        obtain ⟨j, nms, ps, fr, v13, hj, rfl, HST, HEM, HL⟩ := hrel
        by_cases hjl : j < gn
        · obtain ⟨L1, L2, L3, L4, L5⟩ := HL.out
          have e5 := L5.cell (blk_c HN7'.out (Below.refl _ _) (i := 5) rfl) HNb.out
          by_cases hin : (⟨#[]⟩ : ByteArray) ∈ nms
          · obtain ⟨k, hkn⟩ := List.mem_iff_getElem?.1 hin
            have HKN : Hid (nms[k]? = some (⟨#[]⟩ : ByteArray)) := hkn
            have HLK : Hid (look (ent nms) ⟨#[]⟩ = some (natV k)) := look_ent_some HST.out.nodup hkn
            have hkl : k < nms.length := (List.getElem?_eq_some_iff.1 hkn).1
            have HMP : Hid (MapIs wr W6.heap.size (ent nms)) := L4
            have HND : Hid nms.Nodup := HST.out.nodup
            have HLN : Hid (fr.length = nms.length) := HST.out.len
            have HFRO : Hid (FrOf ps fr) := HST.out.fr
            have HBK : Hid _ := L1
            have HFR : Hid (wr.ownsRow W7.heap.size 3 1 v13 fr.length (fr.map natV)) := L2
            have HIS : Hid (∃ xs : List Nat, wr.ownsRow W5.heap.size 3 1 (.slice (some ⟨gi, 0, none⟩) gn gn) gn (xs.map natV) ∧ ∀ (i : Nat) (p : Nat × Bool), ps[i]? = some p → xs[i]? = some p.1) := L3
            have HON : Hid (OnlyS [b, gi, W6.heap.size] W7 wr) := L5
            clear L1 L2 L3 L4 L5 HL hin hkn
            go_upto_region 23 with (at_lookup; go_must (refine wpList_lookup_str_ok _ rfl _ _ 67 rfl 9 3 Tryz.underlying67 Tryz.underlying9 _ _ rfl HMP.out ⟨#[]⟩ rfl (.int .i64 0) Tryz.zero3 (.int .i64 (k : Nat)) true (by rw [HLK.out]; rfl) (by rw [HLK.out]; rfl) ?_))
            clear e5
            generalize hX : wr = X at *
            generalize hn1 : nms = nms1 at HKN HLK HMP HND HLN
            have HOLD : Hid (∀ (i : Nat) x, nms[i]? = some x → nms1[i]? = some x) := fun _ _ h => hn1 ▸ h
            have HEM1 : Hid (∀ x ∈ nms1, x = (⟨#[]⟩ : ByteArray)) := hn1 ▸ HEM.out
            have HFEW : Hid (nms1.length ≤ nms.length + 1) := by rw [← hn1]; exact Nat.le_succ _
            clear hn1
            generalize hf1 : fr = fr1 at HLN HFRO HBK HFR
            generalize hv1 : v13 = v13x at HBK HFR
            clear hX HLK
            obtain ⟨xs, hIS, hISx⟩ := HIS.out
            have l12 := blk_c HBK.out (Below.refl _ _) (i := 12) rfl
            have gj := own_cell hIS j hjl
            have gf' := hIS.frozenAt j
            have HISy : Hid ((X.setCell ⟨gi, j, none⟩ (.int .i64 (k : Nat))).ownsRow W5.heap.size 3 1 (.slice (some ⟨gi, 0, none⟩) gn gn) gn ((xs.set j k).map natV)) := own_set hIS j k
            have HBKy : Hid ((X.setCell ⟨gi, j, none⟩ (.int .i64 (k : Nat))).heap[b]? = some (.cells #[.string ⟨#[]⟩, .int .i64 cpu, .int .i64 mem, .int .i64 (gn : Nat), .string ⟨#[]⟩, .slice none 0 0, .int .i64 0, .int .i64 0, (.slice (some ⟨g8, 0, none⟩) gn gn), (.slice (some ⟨g9, 0, none⟩) gn gn), (.slice (some ⟨g10, 0, none⟩) gn gn), .int .i64 (sumN fr1 : Nat), (.slice (some ⟨gi, 0, none⟩) gn gn), v13x, .int .u64 0, .int .i64 0, .int .i64 0, .int .i64 0, .int .i64 0, .int .i64 0, .slice none 0 0, .int .i64 0, .bool false, .int .i64 0] 66 (0, 0))) := (Below.heap_setCell X ⟨gi, j, none⟩ _ b HBG.out).trans HBK.out
            have HFRy : Hid ((X.setCell ⟨gi, j, none⟩ (.int .i64 (k : Nat))).ownsRow W7.heap.size 3 1 v13x fr1.length (fr1.map natV)) := owns_setCell HFR.out (fun q hq => by have h1 := owns_block HFR.out q hq; have h2 := HG7.out.2.1; simp only; omega)
            have HMPy : Hid (MapIs (X.setCell ⟨gi, j, none⟩ (.int .i64 (k : Nat))) W6.heap.size (ent nms1)) := HMP.out.kept (Below.heap_setCell X ⟨gi, j, none⟩ _ _ (by have h2 := HG7.out.2.2.2; simp only; omega))
            have HONy : Hid (OnlyS [b, gi, W6.heap.size] W7 (X.setCell ⟨gi, j, none⟩ (.int .i64 (k : Nat)))) := HON.out.setCell (.inl (by simp)) _
            have HISx : Hid (∀ (i : Nat) (p : Nat × Bool), (ps ++ [(k, true)])[i]? = some p → (xs.set j k)[i]? = some p.1) := fun i p hp => by
              have hpl := HST.out.plen
              rw [List.length_replicate] at hpl
              have hxl : xs.length = gn := by have := hIS.1; simpa using this
              rcases Nat.lt_or_ge i j with h | h
              · rw [List.getElem?_append_left (by omega)] at hp
                rw [List.getElem?_set_ne (by omega)]
                exact hISx i p hp
              · have hij : i = j := by
                  rcases Nat.eq_or_lt_of_le h with e | e
                  · exact e.symm
                  · rw [List.getElem?_eq_none (by simp; omega)] at hp; cases hp
                subst hij
                rw [List.getElem?_append_right (by omega), show i - ps.length = 0 by omega] at hp
                simp at hp
                subst hp
                rw [List.getElem?_set_self (by omega)]
            clear hIS hISx
            go_upto_region 24 with fail
            generalize hY : X.setCell ⟨gi, j, none⟩ (.int .i64 (k : Nat)) = Y at *
            clear hY l12 gj gf' HIS HBK HFR HMP HON
            have HHY : Hid (HealthAt Y b j true) := ⟨_, _, _, blk_c HBKy.out (Below.refl _ _) (i := 5) rfl, .inl ⟨rfl, rfl⟩⟩
            have HTK : Hid (List.replicate (j + 1) noDev = List.replicate j noDev ++ [noDev]) := List.replicate_succ'
            have hkf : k < fr1.length := by
              have := (List.getElem?_eq_some_iff.1 HKN.out).1
              have := HLN.out
              omega
            go_wp2_with fail
            refine (healthy b j true Y HHY.out).mono ?_
            rintro e w' ⟨rfl, rfl⟩
            have HNX : Hid (St (List.replicate (j + 1) noDev) nms1 (ps ++ [(k, true)]) (fr1.set k (fr1[k]?.getD 0 + 1))) := by
              show St _ _ _ _
              rw [HTK.out]
              refine HST.out.next noDev k HND.out (by rw [List.length_set]; exact HLN.out) ?_ HOLD.out HKN.out HFEW.out
              exact HFRO.out.good hkf
            have hbn : sumN fr1 ≤ 65536 := by
              have h1 := HFRO.out.2.2
              have h2 : ps.countP (·.2) ≤ ps.length := List.countP_le_length
              have h3 := HST.out.plen
              rw [List.length_replicate] at h3
              omega
            have hbx : fr1[k]?.getD 0 ≤ 65536 := by
              rw [HFRO.out.1 k]
              have h2 : cntI ps k ≤ ps.length := List.countP_le_length
              have h3 := HST.out.plen
              rw [List.length_replicate] at h3
              omega
            obtain ⟨gf, gfc, rfl⟩ := owns_form' HFRy.out (by omega)
            have gfb := owns_block HFRy.out gf rfl
            have t13 := blk_c HBKy.out (Below.refl _ _) (i := 13) rfl
            have t11 := blk_c HBKy.out (Below.refl _ _) (i := 11) rfl
            have u11 := blk_f HBKy.out (Below.refl _ _) 11
            have ck := own_cell HFRy.out k hkf
            have fk := HFRy.out.frozenAt k
            have hsum : sumN (fr1.set k (fr1[k]?.getD 0 + 1)) = sumN fr1 + 1 := by
              have := sumN_set fr1 k (fr1[k]?.getD 0 + 1) hkf
              omega
            have hbgf : b ≠ gf := by have := HG7.out.1; omega
            have HFRz : Hid (((Y.setCell ⟨gf, k, none⟩ (.int .i64 ((fr1[k]?.getD 0 + 1 : Nat) : Int))).setCell ⟨b, 11, none⟩ (.int .i64 ((sumN fr1 + 1 : Nat) : Int))).ownsRow W7.heap.size 3 1 (.slice (some ⟨gf, 0, none⟩) fr1.length gfc) (fr1.set k (fr1[k]?.getD 0 + 1)).length ((fr1.set k (fr1[k]?.getD 0 + 1)).map natV)) := by
              rw [List.length_set]
              exact owns_setCell (own_set HFRy.out k _) (fun q hq => by cases hq; exact fun e => hbgf e.symm)
            have HBKz : Hid (((Y.setCell ⟨gf, k, none⟩ (.int .i64 ((fr1[k]?.getD 0 + 1 : Nat) : Int))).setCell ⟨b, 11, none⟩ (.int .i64 ((sumN fr1 + 1 : Nat) : Int))).heap[b]? = some (.cells #[.string ⟨#[]⟩, .int .i64 cpu, .int .i64 mem, .int .i64 (gn : Nat), .string ⟨#[]⟩, .slice none 0 0, .int .i64 0, .int .i64 0, (.slice (some ⟨g8, 0, none⟩) gn gn), (.slice (some ⟨g9, 0, none⟩) gn gn), (.slice (some ⟨g10, 0, none⟩) gn gn), .int .i64 (sumN (fr1.set k (fr1[k]?.getD 0 + 1)) : Nat), (.slice (some ⟨gi, 0, none⟩) gn gn), (.slice (some ⟨gf, 0, none⟩) fr1.length gfc), .int .u64 0, .int .i64 0, .int .i64 0, .int .i64 0, .int .i64 0, .int .i64 0, .slice none 0 0, .int .i64 0, .bool false, .int .i64 0] 66 (0, 0))) := by
              show _ = _
              rw [hsum]
              exact setCell_blk ((Below.heap_setCell Y ⟨gf, k, none⟩ _ b hbgf).trans HBKy.out) _
            have HISz : Hid (((Y.setCell ⟨gf, k, none⟩ (.int .i64 ((fr1[k]?.getD 0 + 1 : Nat) : Int))).setCell ⟨b, 11, none⟩ (.int .i64 ((sumN fr1 + 1 : Nat) : Int))).ownsRow W5.heap.size 3 1 (.slice (some ⟨gi, 0, none⟩) gn gn) gn ((xs.set j k).map natV)) :=
              owns_setCell (owns_setCell HISy.out (fun q hq => by cases hq; have := HG7.out.2.1; simp only; omega)) (fun q hq => by cases hq; exact fun e => HBG.out e.symm)
            have HMPz : Hid (MapIs ((Y.setCell ⟨gf, k, none⟩ (.int .i64 ((fr1[k]?.getD 0 + 1 : Nat) : Int))).setCell ⟨b, 11, none⟩ (.int .i64 ((sumN fr1 + 1 : Nat) : Int))) W6.heap.size (ent nms1)) :=
              (HMPy.out.kept (Below.heap_setCell _ _ _ _ (by have := HG7.out.2.2.1; simp only; omega))).kept (Below.heap_setCell _ _ _ _ (by have := HG7b.out; simp only; omega))
            have HONz : Hid (OnlyS [b, gi, W6.heap.size] W7 ((Y.setCell ⟨gf, k, none⟩ (.int .i64 ((fr1[k]?.getD 0 + 1 : Nat) : Int))).setCell ⟨b, 11, none⟩ (.int .i64 ((sumN fr1 + 1 : Nat) : Int)))) := (HONy.out.setCell (.inr gfb) _).setCell (.inl (by simp)) _
            generalize hfx : fr1[k]?.getD 0 = fx at *
            generalize hsx : sumN fr1 = sx at *
            go_wp2_with fail
            go_roundw
            case rel => first | exact ⟨j + 1, nms1, ps ++ [(k, true)], fr1.set k (fx + 1), .slice (some ⟨gf, 0, none⟩) fr1.length gfc, by omega, by go_num, HNX.out, HEM1.out, ⟨HBKz.out, HFRz.out, ⟨_, HISz.out, HISx.out⟩, HMPz.out, HONz.out⟩⟩ | ((repeat apply Exists.intro); exact ⟨⟨j + 1, nms1, ps ++ [(k, true)], fr1.set k (fx + 1), .slice (some ⟨gf, 0, none⟩) fr1.length gfc, by omega, by go_num, HNX.out, HEM1.out, ⟨HBKz.out, HFRz.out, ⟨_, HISz.out, HISx.out⟩, HMPz.out, HONz.out⟩⟩, rfl⟩)
            case measure => simp [intOf]; omega
          · have HLK : Hid (look (ent nms) ⟨#[]⟩ = none) := look_ent_none hin
            have HNI : Hid ((⟨#[]⟩ : ByteArray) ∉ nms) := hin
            have HMP0 : Hid (MapIs wr W6.heap.size (ent nms)) := L4
            obtain ⟨a13, c13, hv13, -⟩ := owns_slice L2
            have HV13 : Hid (v13 = .slice a13 fr.length c13) := hv13
            have c13' : wr.cell? ⟨b, 13, none⟩ = some (.slice a13 fr.length c13) := by
              have := blk_c L1 (Below.refl _ _) (i := 13) rfl
              rw [hv13] at this
              exact this
            have HBK0 : Hid _ := L1
            have HFR0 : Hid (wr.ownsRow W7.heap.size 3 1 (.slice a13 fr.length c13) fr.length (fr.map natV)) := by have := L2; rw [hv13] at this; exact this
            have HIS0 : Hid (∃ xs : List Nat, wr.ownsRow W5.heap.size 3 1 (.slice (some ⟨gi, 0, none⟩) gn gn) gn (xs.map natV) ∧ ∀ (i : Nat) (p : Nat × Bool), ps[i]? = some p → xs[i]? = some p.1) := L3
            have HON0 : Hid (OnlyS [b, gi, W6.heap.size] W7 wr) := L5
            have hfl : fr.length ≤ 65536 := by have h1 := HST.out.len; have h2 := HST.out.few; rw [List.length_replicate] at h2; omega
            have hws := L5.size
            clear L1 L2 L3 L4 L5 HL hin hv13
            go_upto_region 23 with (first
              | (at_lookup; refine wpList_lookup_str_ok _ rfl _ _ 67 rfl 9 3 Tryz.underlying67 Tryz.underlying9 _ _ rfl HMP0.out ⟨#[]⟩ rfl (.int .i64 0) Tryz.zero3 (.int .i64 0) false (by rw [HLK.out]; rfl) (by rw [HLK.out]; rfl) ?_)
              | (at_mapUpdate; refine wpList_update_str _ rfl _ _ _ 67 rfl 9 3 Tryz.underlying67 Tryz.underlying9 _ _ rfl HMP0.out ⟨#[]⟩ rfl _ rfl HLK.out ?_; intro w3 hm3 hg3; have HM3 : Hid _ := hm3; have HG3 : Hid _ := hg3; have d13 : w3.cell? ⟨b, 13, none⟩ = some (.slice a13 fr.length c13) := (cell_other HG3.out c13' (by have := HG7.out; have := HG7b.out; simp only; omega)); clear hm3 hg3)
              | (at_builtin; refine wpList_append_own _ rfl _ _ 23 rfl W7.heap.size 3 i3 (.int .i64 0) 1 8 Tryz.underlying23 hi3 hz3 hs3 hy3 rfl (by decide) (.slice a13 fr.length c13) fr.length (fr.map natV) rfl ((ownsRow_grown HFR0.out HG3.out (fun q hq => by have h1 := owns_block HFR0.out q hq; have := HG7.out; omega)).alloc _) ⟨w3.heap.size, 0, none⟩ 1 1 [.int .i64 0] rfl rfl (cell_one_new _ _ _) (by intro u hu; simp at hu; subst hu; rfl) (by unfold maxLen; omega) (by omega) (by have := HG3.out.size; simp; omega) ?_; intro v' w4 hown4 hgrow4 _; obtain ⟨g4, c4, rfl⟩ := owns_form' hown4 (by omega); have HOW4x : Hid _ := hown4; have HG4x : Hid _ := hgrow4; have HB4x : Hid (w4.heap[b]? = some (.cells #[.string ⟨#[]⟩, .int .i64 cpu, .int .i64 mem, .int .i64 (gn : Nat), .string ⟨#[]⟩, .slice none 0 0, .int .i64 0, .int .i64 0, (.slice (some ⟨g8, 0, none⟩) gn gn), (.slice (some ⟨g9, 0, none⟩) gn gn), (.slice (some ⟨g10, 0, none⟩) gn gn), .int .i64 (sumN fr : Nat), (.slice (some ⟨gi, 0, none⟩) gn gn), v13, .int .u64 0, .int .i64 0, .int .i64 0, .int .i64 0, .int .i64 0, .int .i64 0, .slice none 0 0, .int .i64 0, .bool false, .int .i64 0] 66 (0, 0))) := grown_blk HG4x.out (alloc_blk (grown_blk HG3.out HBK0.out (fun e => by have h1 := Option.some.inj e; have := HG7b.out; omega)) _) (fun e => by have h1 := owns_block HFR0.out b e; have := HG7.out; omega); have d13' := blk_c HB4x.out (Below.refl _ _) (i := 13) rfl; have f13' := blk_f HB4x.out (Below.refl _ _) 13; clear hown4 hgrow4))
            clear e5 c13' d13 d13' f13'
            have HBK : Hid ((w4.setCell ⟨b, 13, none⟩ (.slice (some ⟨g4, 0, none⟩) (fr.length + 1) c4)).heap[b]? = some (.cells #[.string ⟨#[]⟩, .int .i64 cpu, .int .i64 mem, .int .i64 (gn : Nat), .string ⟨#[]⟩, .slice none 0 0, .int .i64 0, .int .i64 0, (.slice (some ⟨g8, 0, none⟩) gn gn), (.slice (some ⟨g9, 0, none⟩) gn gn), (.slice (some ⟨g10, 0, none⟩) gn gn), .int .i64 (sumN (fr ++ [0]) : Nat), (.slice (some ⟨gi, 0, none⟩) gn gn), (.slice (some ⟨g4, 0, none⟩) (fr.length + 1) c4), .int .u64 0, .int .i64 0, .int .i64 0, .int .i64 0, .int .i64 0, .int .i64 0, .slice none 0 0, .int .i64 0, .bool false, .int .i64 0] 66 (0, 0))) := by
              show _ = _
              rw [sumN_snoc0]
              exact setCell_blk HB4x.out _
            have hg4b := owns_block HOW4x.out g4 rfl
            have HFR : Hid ((w4.setCell ⟨b, 13, none⟩ (.slice (some ⟨g4, 0, none⟩) (fr.length + 1) c4)).ownsRow W7.heap.size 3 1 (.slice (some ⟨g4, 0, none⟩) (fr.length + 1) c4) (fr ++ [0]).length ((fr ++ [0]).map natV)) := by
              have h1 := HOW4x.out
              have h2 : fr.map natV ++ [.int .i64 0] = (fr ++ [0]).map natV := by simp [natV]
              rw [h2] at h1
              rw [List.length_append]
              exact owns_setCell h1 (fun q hq => by cases hq; have := HG7.out; simp only; omega)
            have hng4 : ∀ q, q < W7.heap.size → q ≠ W6.heap.size → q ≠ b → (w4.setCell ⟨b, 13, none⟩ (.slice (some ⟨g4, 0, none⟩) (fr.length + 1) c4)).heap[q]? = wr.heap[q]? := fun q hq h6 hqb => by
              have l1 : q < wr.heap.size := by omega
              rw [Below.heap_setCell _ _ _ _ hqb]
              refine (HG4x.out.block q (by have := HG3.out.size; simp; omega) (fun e => by have h1 := owns_block HFR0.out q e.symm; omega)).trans ?_
              rw [heap_alloc_old _ _ (by have := HG3.out.size; omega)]
              exact HG3.out.block q l1 (fun e => h6 (Option.some.inj e))
            have HIS : Hid (∃ xs : List Nat, (w4.setCell ⟨b, 13, none⟩ (.slice (some ⟨g4, 0, none⟩) (fr.length + 1) c4)).ownsRow W5.heap.size 3 1 (.slice (some ⟨gi, 0, none⟩) gn gn) gn (xs.map natV) ∧ ∀ (i : Nat) (p : Nat × Bool), ps[i]? = some p → xs[i]? = some p.1) := by
              obtain ⟨xs, h1, h2⟩ := HIS0.out
              exact ⟨xs, ownsRow_same h1 (fun q hq => by cases hq; exact hng4 gi HG7.out.2.1 (by have := HG7.out.2.2.2; omega) (fun e => HBG.out e.symm)), h2⟩
            have HMP : Hid (MapIs (w4.setCell ⟨b, 13, none⟩ (.slice (some ⟨g4, 0, none⟩) (fr.length + 1) c4)) W6.heap.size (ent (nms ++ [(⟨#[]⟩ : ByteArray)]))) := by
              have h1 : MapIs w3 W6.heap.size (ent nms ++ [((⟨#[]⟩ : ByteArray), .int .i64 (fr.length : Nat))]) := HM3.out
              have h3 : ent (nms ++ [(⟨#[]⟩ : ByteArray)]) = ent nms ++ [((⟨#[]⟩ : ByteArray), .int .i64 (fr.length : Nat))] := by rw [ent_snoc, HST.out.len]; rfl
              show MapIs _ _ _
              rw [h3]
              refine h1.kept ?_
              have l6 := h1.lt
              rw [Below.heap_setCell _ _ _ _ (by have := HG7b.out; simp only; omega)]
              refine (HG4x.out.block _ (by simp; omega) (fun e => by have h1 := owns_block HFR0.out _ e.symm; have := HG7.out; omega)).trans ?_
              rw [heap_alloc_old _ _ l6]
            have HON : Hid (OnlyS [b, gi, W6.heap.size] W7 (w4.setCell ⟨b, 13, none⟩ (.slice (some ⟨g4, 0, none⟩) (fr.length + 1) c4))) := by
              refine OnlyS.setCell ?_ (.inl (by simp)) _
              refine ((HON0.out.grown HG3.out (fun q hq => .inl (by cases hq; simp))).trans (OnlyS.of (below_alloc1 _ _))).grown HG4x.out (fun q hq => .inr (owns_block HFR0.out q hq))
            have HKN : Hid ((nms ++ [(⟨#[]⟩ : ByteArray)])[fr.length]? = some (⟨#[]⟩ : ByteArray)) := by
              show _ = _
              rw [HST.out.len]
              simp
            have HND : Hid (nms ++ [(⟨#[]⟩ : ByteArray)]).Nodup := List.nodup_append.2 ⟨HST.out.nodup, by simp, fun x hx y hy => by simp at hy; subst hy; exact fun e => HNI.out (e ▸ hx)⟩
            have HLN : Hid ((fr ++ [0]).length = (nms ++ [(⟨#[]⟩ : ByteArray)]).length) := by have := HST.out.len; show _ = _; simp [this]
            have HFRO : Hid (FrOf ps (fr ++ [0])) := HST.out.fr.grow
            have HEM1 : Hid (∀ x ∈ nms ++ [(⟨#[]⟩ : ByteArray)], x = (⟨#[]⟩ : ByteArray)) := fun x hx => by
              rcases List.mem_append.1 hx with h | h
              · exact HEM.out x h
              · simpa using h
            have HOLD : Hid (∀ (i : Nat) x, nms[i]? = some x → (nms ++ [(⟨#[]⟩ : ByteArray)])[i]? = some x) := fun i x h => by rw [List.getElem?_append_left ((List.getElem?_eq_some_iff.1 h).1)]; exact h
            have HFEW : Hid ((nms ++ [(⟨#[]⟩ : ByteArray)]).length ≤ nms.length + 1) := by show _ ≤ _; simp
            generalize hX : w4.setCell ⟨b, 13, none⟩ (.slice (some ⟨g4, 0, none⟩) (fr.length + 1) c4) = X at *
            clear hX hng4 HIS0 HMP0 HON0 HBK0 HLK HNI HOW4x HG4x HB4x HM3 HG3 HV13
            generalize hv1 : Value.slice (some ⟨g4, 0, none⟩) (fr.length + 1) c4 = v13x at HBK HFR
            generalize hn1 : nms ++ [(⟨#[]⟩ : ByteArray)] = nms1 at HKN HMP HND HLN HOLD HFEW HEM1
            generalize hf1 : fr ++ [0] = fr1 at HLN HFRO HBK HFR
            generalize hk1 : fr.length = k at *
            clear hv1 hn1 hf1
            obtain ⟨xs, hIS, hISx⟩ := HIS.out
            have l12 := blk_c HBK.out (Below.refl _ _) (i := 12) rfl
            have gj := own_cell hIS j hjl
            have gf' := hIS.frozenAt j
            have HISy : Hid ((X.setCell ⟨gi, j, none⟩ (.int .i64 (k : Nat))).ownsRow W5.heap.size 3 1 (.slice (some ⟨gi, 0, none⟩) gn gn) gn ((xs.set j k).map natV)) := own_set hIS j k
            have HBKy : Hid ((X.setCell ⟨gi, j, none⟩ (.int .i64 (k : Nat))).heap[b]? = some (.cells #[.string ⟨#[]⟩, .int .i64 cpu, .int .i64 mem, .int .i64 (gn : Nat), .string ⟨#[]⟩, .slice none 0 0, .int .i64 0, .int .i64 0, (.slice (some ⟨g8, 0, none⟩) gn gn), (.slice (some ⟨g9, 0, none⟩) gn gn), (.slice (some ⟨g10, 0, none⟩) gn gn), .int .i64 (sumN fr1 : Nat), (.slice (some ⟨gi, 0, none⟩) gn gn), v13x, .int .u64 0, .int .i64 0, .int .i64 0, .int .i64 0, .int .i64 0, .int .i64 0, .slice none 0 0, .int .i64 0, .bool false, .int .i64 0] 66 (0, 0))) := (Below.heap_setCell X ⟨gi, j, none⟩ _ b HBG.out).trans HBK.out
            have HFRy : Hid ((X.setCell ⟨gi, j, none⟩ (.int .i64 (k : Nat))).ownsRow W7.heap.size 3 1 v13x fr1.length (fr1.map natV)) := owns_setCell HFR.out (fun q hq => by have h1 := owns_block HFR.out q hq; have h2 := HG7.out.2.1; simp only; omega)
            have HMPy : Hid (MapIs (X.setCell ⟨gi, j, none⟩ (.int .i64 (k : Nat))) W6.heap.size (ent nms1)) := HMP.out.kept (Below.heap_setCell X ⟨gi, j, none⟩ _ _ (by have h2 := HG7.out.2.2.2; simp only; omega))
            have HONy : Hid (OnlyS [b, gi, W6.heap.size] W7 (X.setCell ⟨gi, j, none⟩ (.int .i64 (k : Nat)))) := HON.out.setCell (.inl (by simp)) _
            have HISx : Hid (∀ (i : Nat) (p : Nat × Bool), (ps ++ [(k, true)])[i]? = some p → (xs.set j k)[i]? = some p.1) := fun i p hp => by
              have hpl := HST.out.plen
              rw [List.length_replicate] at hpl
              have hxl : xs.length = gn := by have := hIS.1; simpa using this
              rcases Nat.lt_or_ge i j with h | h
              · rw [List.getElem?_append_left (by omega)] at hp
                rw [List.getElem?_set_ne (by omega)]
                exact hISx i p hp
              · have hij : i = j := by
                  rcases Nat.eq_or_lt_of_le h with e | e
                  · exact e.symm
                  · rw [List.getElem?_eq_none (by simp; omega)] at hp; cases hp
                subst hij
                rw [List.getElem?_append_right (by omega), show i - ps.length = 0 by omega] at hp
                simp at hp
                subst hp
                rw [List.getElem?_set_self (by omega)]
            clear hIS hISx
            go_upto_region 24 with fail
            generalize hY : X.setCell ⟨gi, j, none⟩ (.int .i64 (k : Nat)) = Y at *
            clear hY l12 gj gf' HIS HBK HFR HMP HON
            have HHY : Hid (HealthAt Y b j true) := ⟨_, _, _, blk_c HBKy.out (Below.refl _ _) (i := 5) rfl, .inl ⟨rfl, rfl⟩⟩
            have HTK : Hid (List.replicate (j + 1) noDev = List.replicate j noDev ++ [noDev]) := List.replicate_succ'
            have hkf : k < fr1.length := by
              have := (List.getElem?_eq_some_iff.1 HKN.out).1
              have := HLN.out
              omega
            go_wp2_with fail
            refine (healthy b j true Y HHY.out).mono ?_
            rintro e w' ⟨rfl, rfl⟩
            have HNX : Hid (St (List.replicate (j + 1) noDev) nms1 (ps ++ [(k, true)]) (fr1.set k (fr1[k]?.getD 0 + 1))) := by
              show St _ _ _ _
              rw [HTK.out]
              refine HST.out.next noDev k HND.out (by rw [List.length_set]; exact HLN.out) ?_ HOLD.out HKN.out HFEW.out
              exact HFRO.out.good hkf
            have hbn : sumN fr1 ≤ 65536 := by
              have h1 := HFRO.out.2.2
              have h2 : ps.countP (·.2) ≤ ps.length := List.countP_le_length
              have h3 := HST.out.plen
              rw [List.length_replicate] at h3
              omega
            have hbx : fr1[k]?.getD 0 ≤ 65536 := by
              rw [HFRO.out.1 k]
              have h2 : cntI ps k ≤ ps.length := List.countP_le_length
              have h3 := HST.out.plen
              rw [List.length_replicate] at h3
              omega
            obtain ⟨gf, gfc, rfl⟩ := owns_form' HFRy.out (by omega)
            have gfb := owns_block HFRy.out gf rfl
            have t13 := blk_c HBKy.out (Below.refl _ _) (i := 13) rfl
            have t11 := blk_c HBKy.out (Below.refl _ _) (i := 11) rfl
            have u11 := blk_f HBKy.out (Below.refl _ _) 11
            have ck := own_cell HFRy.out k hkf
            have fk := HFRy.out.frozenAt k
            have hsum : sumN (fr1.set k (fr1[k]?.getD 0 + 1)) = sumN fr1 + 1 := by
              have := sumN_set fr1 k (fr1[k]?.getD 0 + 1) hkf
              omega
            have hbgf : b ≠ gf := by have := HG7.out.1; omega
            have HFRz : Hid (((Y.setCell ⟨gf, k, none⟩ (.int .i64 ((fr1[k]?.getD 0 + 1 : Nat) : Int))).setCell ⟨b, 11, none⟩ (.int .i64 ((sumN fr1 + 1 : Nat) : Int))).ownsRow W7.heap.size 3 1 (.slice (some ⟨gf, 0, none⟩) fr1.length gfc) (fr1.set k (fr1[k]?.getD 0 + 1)).length ((fr1.set k (fr1[k]?.getD 0 + 1)).map natV)) := by
              rw [List.length_set]
              exact owns_setCell (own_set HFRy.out k _) (fun q hq => by cases hq; exact fun e => hbgf e.symm)
            have HBKz : Hid (((Y.setCell ⟨gf, k, none⟩ (.int .i64 ((fr1[k]?.getD 0 + 1 : Nat) : Int))).setCell ⟨b, 11, none⟩ (.int .i64 ((sumN fr1 + 1 : Nat) : Int))).heap[b]? = some (.cells #[.string ⟨#[]⟩, .int .i64 cpu, .int .i64 mem, .int .i64 (gn : Nat), .string ⟨#[]⟩, .slice none 0 0, .int .i64 0, .int .i64 0, (.slice (some ⟨g8, 0, none⟩) gn gn), (.slice (some ⟨g9, 0, none⟩) gn gn), (.slice (some ⟨g10, 0, none⟩) gn gn), .int .i64 (sumN (fr1.set k (fr1[k]?.getD 0 + 1)) : Nat), (.slice (some ⟨gi, 0, none⟩) gn gn), (.slice (some ⟨gf, 0, none⟩) fr1.length gfc), .int .u64 0, .int .i64 0, .int .i64 0, .int .i64 0, .int .i64 0, .int .i64 0, .slice none 0 0, .int .i64 0, .bool false, .int .i64 0] 66 (0, 0))) := by
              show _ = _
              rw [hsum]
              exact setCell_blk ((Below.heap_setCell Y ⟨gf, k, none⟩ _ b hbgf).trans HBKy.out) _
            have HISz : Hid (((Y.setCell ⟨gf, k, none⟩ (.int .i64 ((fr1[k]?.getD 0 + 1 : Nat) : Int))).setCell ⟨b, 11, none⟩ (.int .i64 ((sumN fr1 + 1 : Nat) : Int))).ownsRow W5.heap.size 3 1 (.slice (some ⟨gi, 0, none⟩) gn gn) gn ((xs.set j k).map natV)) :=
              owns_setCell (owns_setCell HISy.out (fun q hq => by cases hq; have := HG7.out.2.1; simp only; omega)) (fun q hq => by cases hq; exact fun e => HBG.out e.symm)
            have HMPz : Hid (MapIs ((Y.setCell ⟨gf, k, none⟩ (.int .i64 ((fr1[k]?.getD 0 + 1 : Nat) : Int))).setCell ⟨b, 11, none⟩ (.int .i64 ((sumN fr1 + 1 : Nat) : Int))) W6.heap.size (ent nms1)) :=
              (HMPy.out.kept (Below.heap_setCell _ _ _ _ (by have := HG7.out.2.2.1; simp only; omega))).kept (Below.heap_setCell _ _ _ _ (by have := HG7b.out; simp only; omega))
            have HONz : Hid (OnlyS [b, gi, W6.heap.size] W7 ((Y.setCell ⟨gf, k, none⟩ (.int .i64 ((fr1[k]?.getD 0 + 1 : Nat) : Int))).setCell ⟨b, 11, none⟩ (.int .i64 ((sumN fr1 + 1 : Nat) : Int)))) := (HONy.out.setCell (.inr gfb) _).setCell (.inl (by simp)) _
            generalize hfx : fr1[k]?.getD 0 = fx at *
            generalize hsx : sumN fr1 = sx at *
            go_wp2_with fail
            go_roundw
            case rel => first | exact ⟨j + 1, nms1, ps ++ [(k, true)], fr1.set k (fx + 1), .slice (some ⟨gf, 0, none⟩) fr1.length gfc, by omega, by go_num, HNX.out, HEM1.out, ⟨HBKz.out, HFRz.out, ⟨_, HISz.out, HISx.out⟩, HMPz.out, HONz.out⟩⟩ | ((repeat apply Exists.intro); exact ⟨⟨j + 1, nms1, ps ++ [(k, true)], fr1.set k (fx + 1), .slice (some ⟨gf, 0, none⟩) fr1.length gfc, by omega, by go_num, HNX.out, HEM1.out, ⟨HBKz.out, HFRz.out, ⟨_, HISz.out, HISx.out⟩, HMPz.out, HONz.out⟩⟩, rfl⟩)
            case measure => simp [intOf]; omega
        · obtain rfl : gn = j := by omega
          have HS : Hid (St (List.replicate gn noDev) nms ps fr) := HST.out
          have HNL : Hid (nms.length ≤ 1) := nodup_one HST.out.nodup HEM.out
          obtain ⟨L1, L2, ⟨xs, L3, L3x⟩, L4, L5⟩ := HL.out
          have e15 := blk_c L1 (Below.refl _ _) (i := 15) rfl
          have f15 := blk_f L1 (Below.refl _ _) 15
          have e1 := L5.cell (blk_c HN7'.out (Below.refl _ _) (i := 1) rfl) HNb.out
          have e2 := L5.cell (blk_c HN7'.out (Below.refl _ _) (i := 2) rfl) HNb.out
          have e3 := L5.cell (blk_c HN7'.out (Below.refl _ _) (i := 3) rfl) HNb.out
          have HN8 : Hid (wr.heap[WS.heap.size]? = some (.cells #[.string ⟨#[]⟩, .int .i64 cpu, .int .i64 mem, .int .i64 (gn : Nat), .string ⟨#[]⟩, .slice none 0 0] 48 (0, 0))) := L5.blk HN7'.out HNb.out
          have hnb1 : WS.heap.size ≠ b := fun e => HNb.out (by rw [e]; simp)
          have HB1 : Hid ((wr.setCell ⟨b, 15, none⟩ (.int .i64 (-1))).heap[b]? = some (.cells #[.string ⟨#[]⟩, .int .i64 cpu, .int .i64 mem, .int .i64 (gn : Nat), .string ⟨#[]⟩, .slice none 0 0, .int .i64 0, .int .i64 0, (.slice (some ⟨g8, 0, none⟩) gn gn), (.slice (some ⟨g9, 0, none⟩) gn gn), (.slice (some ⟨g10, 0, none⟩) gn gn), .int .i64 (sumN fr : Nat), (.slice (some ⟨gi, 0, none⟩) gn gn), v13, .int .u64 0, .int .i64 (-1), .int .i64 0, .int .i64 0, .int .i64 0, .int .i64 0, .slice none 0 0, .int .i64 0, .bool false, .int .i64 0] 66 (0, 0))) := setCell_blk L1 _
          have A8 : Hid _ := L5.owns HO87.out (fun q hq => by cases hq; exact HG8.out)
          have AM : Hid _ := L5.blk HMX7.out (HLow.out _ (heap_lt HMX.out))
          have AS : Hid _ := L5.blk HSH7.out (HLow.out _ (heap_lt HSH.out))
          have AF : Hid (MapIs3 wr (w1.heap.size + 1 + 1) (esOf F)) := MapIs3.kept HFM7.out (L5.block _ (MapIs3.lt HFM7.out) (HLow.out _ (MapIs3.lt HFM.out)))
          have AN : Hid _ := L5.owns HNG7.out (fun q hq => by cases hq; exact HLow.out _ HWn.out)
          have AI : Hid _ := L3
          have AIx : Hid _ := L3x
          have AFr : Hid _ := L2
          have LON : Hid _ := L5
          have lwr := L5.size
          have lbw : b < wr.heap.size := heap_lt L1
          have hqs : w1.heap.size + 1 + 1 < WS.heap.size := MapIs3.lt HFM.out
          have bLow : WS.heap.size ≤ b := by omega
          have hqb : w1.heap.size + 1 + 1 ≠ b := by omega
          have hsm : w1.heap.size + 1 < WS.heap.size := heap_lt HSH.out
          have KW : Hid (Keep W0.heap.size WS wr) := fun q h1 h2 => (LON.out.block q (by have := hbS7.size; omega) (HLow.out q h2)).trans (hbS7.block q h2)
          clear L1 L2 L3 L3x L4 L5 HL
          go_upto_region 30 with fail
          have O2 : Hid (OnlyS [b, w1.heap.size + 1 + 1] wr ((wr.setCell ⟨b, 15, none⟩ (.int .i64 (-1))).alloc (.cells #[.int .i64 cpu, .int .i64 mem, .int .i64 (gn : Nat)] 70))) := ((OnlyS.refl _ _).setCell (.inl (by simp)) _).trans (OnlyS.of (below_alloc1 _ _))
          have HB2 : Hid (((wr.setCell ⟨b, 15, none⟩ (.int .i64 (-1))).alloc (.cells #[.int .i64 cpu, .int .i64 mem, .int .i64 (gn : Nat)] 70)).heap[b]? = some (.cells #[.string ⟨#[]⟩, .int .i64 cpu, .int .i64 mem, .int .i64 (gn : Nat), .string ⟨#[]⟩, .slice none 0 0, .int .i64 0, .int .i64 0, (.slice (some ⟨g8, 0, none⟩) gn gn), (.slice (some ⟨g9, 0, none⟩) gn gn), (.slice (some ⟨g10, 0, none⟩) gn gn), .int .i64 (sumN fr : Nat), (.slice (some ⟨gi, 0, none⟩) gn gn), v13, .int .u64 0, .int .i64 (-1), .int .i64 0, .int .i64 0, .int .i64 0, .int .i64 0, .slice none 0 0, .int .i64 0, .bool false, .int .i64 0] 66 (0, 0))) := alloc_blk HB1.out _
          have HK2 : Hid (((wr.setCell ⟨b, 15, none⟩ (.int .i64 (-1))).alloc (.cells #[.int .i64 cpu, .int .i64 mem, .int .i64 (gn : Nat)] 70)).heap[wr.heap.size]? = some (.cells #[.int .i64 cpu, .int .i64 mem, .int .i64 (gn : Nat)] 70)) := by
            have e : (wr.setCell ⟨b, 15, none⟩ (.int .i64 (-1))).heap.size = wr.heap.size := by simp [World.setCell]
            have := heap_alloc_new (wr.setCell ⟨b, 15, none⟩ (.int .i64 (-1))) (.cells #[.int .i64 cpu, .int .i64 mem, .int .i64 (gn : Nat)] 70)
            rw [e] at this
            exact this
          have HF2 : Hid (MapIs3 ((wr.setCell ⟨b, 15, none⟩ (.int .i64 (-1))).alloc (.cells #[.int .i64 cpu, .int .i64 mem, .int .i64 (gn : Nat)] 70)) (w1.heap.size + 1 + 1) (esOf F)) := MapIs3.kept AF.out ((heap_alloc_old _ _ (by simp [World.setCell]; omega)).trans (Below.heap_setCell _ _ _ _ hqb))
          have HN9 : Hid (((wr.setCell ⟨b, 15, none⟩ (.int .i64 (-1))).alloc (.cells #[.int .i64 cpu, .int .i64 mem, .int .i64 (gn : Nat)] 70)).heap[WS.heap.size]? = some (.cells #[.string ⟨#[]⟩, .int .i64 cpu, .int .i64 mem, .int .i64 (gn : Nat), .string ⟨#[]⟩, .slice none 0 0] 48 (0, 0))) := alloc_blk ((Below.heap_setCell _ _ _ _ hnb1).trans HN8.out) _
          generalize hX2 : (wr.setCell ⟨b, 15, none⟩ (.int .i64 (-1))).alloc (.cells #[.int .i64 cpu, .int .i64 mem, .int .i64 (gn : Nat)] 70) = X2 at *
          clear hX2 e15 f15 e1 e2 e3 HB1 HN8
          have k0 := blk_c HK2.out (Below.refl _ _) (i := 0) rfl
          have k1 := blk_c HK2.out (Below.refl _ _) (i := 1) rfl
          have k2 := blk_c HK2.out (Below.refl _ _) (i := 2) rfl
          have KX : Hid (Keep W0.heap.size WS X2) := fun q h1 h2 => (O2.out.block q (by omega) (by simp only [List.mem_cons, List.not_mem_nil, or_false, not_or]; exact ⟨by omega, by omega⟩)).trans (KW.out q h1 h2)
          by_cases hin : keyOf (cpu, mem, gn) ∈ F.map (·.1)
          · obtain ⟨sp, g1, c1, hsp⟩ := mem_key hin
            have HSP : Hid (F[sp]? = some (keyOf (cpu, mem, gn), g1, c1)) := hsp
            have HLK : Hid (look3 (esOf F) (cpu, mem, (gn : Int)) = some (.slice (some ⟨g1, 0, none⟩) 1 c1)) := look3_some HR.out.keys hsp
            obtain ⟨b1, hg1, hbk1⟩ := (HR.out.old X2 KX.out).2 sp (cpu, mem, gn) g1 c1 hsp
            have HBK1 : Hid (BookF X2 b1 (cpu, mem, gn) sp) := hbk1
            clear hsp hin hbk1
            go_wp2_with (at_lookup; go_must (refine wpList_lookupK _ rfl _ _ rfl (w1.heap.size + 1 + 1) (esOf F) HF2.out (cpu, mem, (gn : Int)) rfl rfl (.slice (some ⟨g1, 0, none⟩) 1 c1) (by rw [HLK.out]; rfl) ?_))
            go_loop [144] (fun iv => iv = .int .i64 0) (fun _ => 0)
            case atStart => rfl
            case round =>
              obtain rfl := hrel
              go_upto_region 33 with fail
              have q0 := cell_regrown HBK1.out.c0
              have q1 := cell_regrown HBK1.out.c1
              have q2 := cell_regrown HBK1.out.c2
              have q3 := cell_regrown HBK1.out.c3
              have q4 := cell_regrown HBK1.out.c4
              have q5 := cell_regrown HBK1.out.c5
              simp only at q1 q2 q3
              have y0 := blk_r HN9.out (i := 0) rfl
              have y1 := blk_r HN9.out (i := 1) rfl
              have y2 := blk_r HN9.out (i := 2) rfl
              have y3 := blk_r HN9.out (i := 3) rfl
              have y4 := blk_r HN9.out (i := 4) rfl
              have y5 := blk_r HN9.out (i := 5) rfl
              refine Mix.wp_region_mix (Mix.mkKd [(5, .mk (fun u => u = .bool true) (fun _ _ => True) [])]) (by kernel_rfl) (by kernel_rfl) (Mix.makers_of ?_) ?_
              · intro p hp
                simp only [List.mem_cons, List.not_mem_nil, or_false] at hp
                subst hp
                exact ⟨fun _ _ _ _ _ => trivial, _, _, rfl, rfl, by simp⟩
              iterate 5
                refine Mix.x_det rfl (fun K hK => ?_)
                go_simp
                refine hK _ ?_
                clear hK K
              refine Mix.x_mk _ _ _ rfl rfl (.bool true) rfl (fun p _ => ?_) ?_
              · go_simp
                refine (alike cpu mem gn _).mono ?_
                rintro e w'' ⟨rfl, hbe⟩
                simpa using hbe
              rintro u rfl
              intro X4 hX4
              obtain ⟨hb4, -⟩ := hX4
              clear q0 q1 q2 q3 q4 q5 y0 y1 y2 y3 y4 y5
              have HB4 : Hid (X4.heap[b]? = some (.cells #[.string ⟨#[]⟩, .int .i64 cpu, .int .i64 mem, .int .i64 (gn : Nat), .string ⟨#[]⟩, .slice none 0 0, .int .i64 0, .int .i64 0, (.slice (some ⟨g8, 0, none⟩) gn gn), (.slice (some ⟨g9, 0, none⟩) gn gn), (.slice (some ⟨g10, 0, none⟩) gn gn), .int .i64 (sumN fr : Nat), (.slice (some ⟨gi, 0, none⟩) gn gn), v13, .int .u64 0, .int .i64 (-1), .int .i64 0, .int .i64 0, .int .i64 0, .int .i64 0, .slice none 0 0, .int .i64 0, .bool false, .int .i64 0] 66 (0, 0))) := (hb4.block _ (heap_lt HB2.out)).trans HB2.out
              have s15 : X4.cell? ⟨b1, 15, none⟩ = some (.int .i64 (sp : Nat)) := (hb4.cell (cell_lt HBK1.out.c15)).trans HBK1.out.c15
              have e15 := blk_c HB4.out (Below.refl _ _) (i := 15) rfl
              have f15 := blk_f HB4.out (Below.refl _ _) 15
              have HB7 : Hid ((X4.setCell ⟨b, 15, none⟩ (.int .i64 (sp : Nat))).heap[b]? = some (.cells #[.string ⟨#[]⟩, .int .i64 cpu, .int .i64 mem, .int .i64 (gn : Nat), .string ⟨#[]⟩, .slice none 0 0, .int .i64 0, .int .i64 0, (.slice (some ⟨g8, 0, none⟩) gn gn), (.slice (some ⟨g9, 0, none⟩) gn gn), (.slice (some ⟨g10, 0, none⟩) gn gn), .int .i64 (sumN fr : Nat), (.slice (some ⟨gi, 0, none⟩) gn gn), v13, .int .u64 0, .int .i64 (sp : Nat), .int .i64 0, .int .i64 0, .int .i64 0, .int .i64 0, .slice none 0 0, .int .i64 0, .bool false, .int .i64 0] 66 (0, 0))) := setCell_blk HB4.out _
              have O7 : Hid (OnlyS [b, w1.heap.size + 1 + 1] wr (X4.setCell ⟨b, 15, none⟩ (.int .i64 (sp : Nat)))) := (O2.out.trans (OnlyS.of hb4)).setCell (.inl (by simp)) _
              have HM7 : Hid (MapIs3 (X4.setCell ⟨b, 15, none⟩ (.int .i64 (sp : Nat))) (w1.heap.size + 1 + 1) (esOf F)) := MapIs3.kept HF2.out ((Below.heap_setCell _ _ _ _ hqb).trans (hb4.block _ (MapIs3.lt HF2.out)))
              have hsp0 : ¬ ((sp : Int) < 0) := by omega
              show Exit.then _ _ _ _ _
              go_upto_region 40 with fail
              generalize hX7 : X4.setCell ⟨b, 15, none⟩ (.int .i64 (sp : Nat)) = X7 at *
              clear hX7 HB4 s15 e15 f15 hb4 k0 k1 k2 hsp0 hg1
              have nS : ∀ q, q ≠ b → q ≠ w1.heap.size + 1 + 1 → q ∉ [b, w1.heap.size + 1 + 1] := fun q h1 h2 => by simp only [List.mem_cons, List.not_mem_nil, or_false, not_or]; exact ⟨h1, h2⟩
              have R8 : Hid _ := O7.out.owns A8.out (fun q hq => by cases hq; exact nS g8 (fun e => HG8.out (by rw [e]; simp)) (by have := owns_block A8.out g8 rfl; omega))
              have RI : Hid _ := O7.out.owns AI.out (fun q hq => by cases hq; exact nS gi (fun e => HBG.out e.symm) (by have := HGI5.out; omega))
              have RF : Hid _ := O7.out.owns AFr.out (fun q hq => by have h1 := owns_block AFr.out q hq; have h2 := HG7.out.1; exact nS q (by omega) (by omega))
              have M7 : Hid _ := O7.out.blk AM.out (nS _ (by omega) (by omega))
              have S7 : Hid _ := O7.out.blk AS.out (nS _ (by omega) (by omega))
              have N7 : Hid _ := O7.out.owns AN.out (fun q hq => by cases hq; exact nS w.heap.size (by have := HWn.out; omega) (by omega))
              have HA7 : Hid (Aux X7 b (.slice none 0 0) (.slice (some ⟨g8, 0, none⟩) gn gn) (List.replicate gn true)) := aux_none R8.out (fun e => HG8.out (by rw [e]; simp))
              have MX7 : Hid (MixAt X7 w1.heap.size) := ⟨blk_c M7.out (Below.refl _ _) (i := 0) rfl, blk_c M7.out (Below.refl _ _) (i := 1) rfl, blk_c M7.out (Below.refl _ _) (i := 2) rfl⟩
              have s1 := blk_c S7.out (Below.refl _ _) (i := 1) rfl
              go_wp2_with fail
              refine (weighF b w1.heap.size gn (sumN fr) cpu mem (sp : Nat) _ _ _ _ _ _ (List.replicate gn true) X7 (fun h hh => (List.mem_replicate.1 hh).2) HB7.out HA7.out MX7.out (by omega) (by rw [List.length_replicate]; exact hn) hc0 hc1 hm0 hm1).mono ?_
              rintro e X8 ⟨rfl, ho8, x, fits, hx8, hB8⟩
              rw [List.length_replicate] at hx8
              have HB8 : Hid _ := hB8
              have HO8 : Hid _ := ho8
              clear hB8 ho8 s1
              have hsb : w1.heap.size + 1 ≠ b := by omega
              have hnb' : w.heap.size ≠ b := by have := HWn.out; omega
              have S8 : Hid (X8.heap[w1.heap.size + 1]? = some (.cells #[.slice (some ⟨w.heap.size, 0, none⟩) ns.length ns.length, .pointer (some ⟨w1.heap.size, 0, none⟩), .slice none 0 0, .slice none 0 0] 58 (0, 0))) := (HO8.out.block _ (heap_lt S7.out) hsb).trans S7.out
              have N8 : Hid (X8.ownsRow w.heap.size 71 1 (.slice (some ⟨w.heap.size, 0, none⟩) ns.length ns.length) ns.length (ptrs ns.length bs)) := ownsRow_same N7.out (fun q hq => by cases hq; exact HO8.out.block _ (ownsRow_lt N7.out _ rfl) hnb')
              have s0 := blk_c S8.out (Below.refl _ _) (i := 0) rfl
              have hbl : bs.length = jo := HR.out.blen
              have n0' : X8.cell? ⟨w.heap.size, jo, none⟩ = some (.pointer none) := (N8.out.cellAt jo (by omega)).trans (by rw [← hbl]; exact ptrs_next (by omega))
              have nf := N8.out.frozenAt jo
              have DONE : Hid (RunN w W0.heap.size w1.heap.size (w1.heap.size + 1) (w1.heap.size + 1 + 1) ns (jo + 1) F (bs ++ [b]) (X8.setCell ⟨w.heap.size, jo, none⟩ (.pointer (some ⟨b, 0, none⟩)))) := by
                have oo : ∀ q, q ≠ w.heap.size → (X8.setCell ⟨w.heap.size, jo, none⟩ (.pointer (some ⟨b, 0, none⟩))).heap[q]? = X8.heap[q]? := fun q hq => Below.heap_setCell _ _ _ _ hq
                have o78 : ∀ q, q < X7.heap.size → q ≠ b → X8.heap[q]? = X7.heap[q]? := HO8.out.block
                have l78 := HO8.out.size
                have l27 := O7.out.size
                have lw := HWn.out
                have hsz9 : (X8.setCell ⟨w.heap.size, jo, none⟩ (.pointer (some ⟨b, 0, none⟩))).heap.size = X8.heap.size := by simp [World.setCell]
                have lift : ∀ {e : TypeId} {size : Nat} {v : Value} {n : Nat} {ys : List Value} {B : Nat}, X7.ownsRow B e size v n ys → WS.heap.size ≤ B → (∀ q, v.ownBlock = some q → q ≠ b) → (X8.setCell ⟨w.heap.size, jo, none⟩ (.pointer (some ⟨b, 0, none⟩))).ownsRow WS.heap.size e size v n ys := fun h hB hne =>
                  owns_low (ownsRow_same h (fun q hq => by
                    have h1 := owns_block h q hq
                    rw [oo q (by omega)]
                    exact o78 q (ownsRow_lt h q hq) (hne q hq))) hB
                have KZ : Keep W0.heap.size WS (X8.setCell ⟨w.heap.size, jo, none⟩ (.pointer (some ⟨b, 0, none⟩))) := fun q h1 h2 => by
                  rw [oo q (by omega), o78 q (by omega) (by omega), O7.out.block q (by omega) (nS q (by omega) (by omega))]
                  exact KW.out q h1 h2
                have BZ : ∀ w', Keep WS.heap.size (X8.setCell ⟨w.heap.size, jo, none⟩ (.pointer (some ⟨b, 0, none⟩))) w' → BookF w' b (cpu, mem, gn) sp :=
                  bookF_of (v13 := v13) (xs := xs) ((oo b (by omega)).trans HB8.out) bLow hx8 (lift R8.out (by omega) (fun q hq e => by cases hq; exact HG8.out (by have e' : g8 = b := e; rw [e']; simp))) (lift RI.out (by omega) (fun q hq => by cases hq; exact fun e => HBG.out e.symm)) AIx.out (lift RF.out (by omega) (fun q hq => by have h1 := owns_block RF.out q hq; have h2 := HG7.out.1; omega)) HS.out HNL.out
                refine ⟨?_, by rw [hsz9]; omega, ?_, ?_, ?_, by simp [hbl], ?_, ?_, ?_, ?_⟩
                · have h1 : Below w.heap.size w wr := hbC.trans (hbS7.mono (by omega)) |>.trans (LON.out.below (by omega) (fun q hq => by simp only [List.mem_cons, List.not_mem_nil, or_false] at hq; have := HGI5.out; rcases hq with rfl | rfl | rfl <;> omega))
                  have h2 : Below w.heap.size w X7 := h1.trans (O7.out.below (by omega) (fun q hq => by simp only [List.mem_cons, List.not_mem_nil, or_false] at hq; rcases hq with rfl | rfl <;> omega))
                  exact (h2.trans (HO8.out.below (by omega) (by omega))).setCell (Nat.le_refl _) _
                · rw [oo _ (by omega), o78 _ (heap_lt M7.out) (by omega)]
                  exact M7.out
                · rw [oo _ (by omega)]
                  exact S8.out
                · have := (N8.out.stored jo (.pointer (some ⟨b, 0, none⟩))).1
                  rw [← hbl, ptrs_set ns.length bs b (by omega)] at this
                  rw [← hbl]
                  exact this
                · exact MapIs3.kept HM7.out ((oo _ (by omega)).trans (o78 _ (MapIs3.lt HM7.out) (by omega)))
                · exact HR.out.keys
                · omega
                · exact old_same HR.out.old (by rw [hsz9]; omega) hW0 KZ hbl HND0.out HSP.out BZ
              go_wp2_with fail
              go_roundw
              case rel => first | exact ⟨jo + 1, F, bs ++ [b], by omega, by go_num, by rfl, DONE.out⟩ | ((repeat apply Exists.intro); exact ⟨⟨jo + 1, F, bs ++ [b], by omega, by go_num, by rfl, DONE.out⟩, rfl⟩)
              case measure => simp [intOf]; omega

          · have HLK : Hid (look3 (esOf F) (cpu, mem, (gn : Int)) = none) := look3_none hin
            have HNK : Hid (keyOf (cpu, mem, gn) ∉ F.map (·.1)) := hin
            clear hin
            go_wp2_with (at_lookup; go_must (refine wpList_lookupK _ rfl _ _ rfl (w1.heap.size + 1 + 1) (esOf F) HF2.out (cpu, mem, (gn : Int)) rfl rfl (.slice none 0 0) (by rw [HLK.out]; rfl) ?_))
            go_loop [144] (fun iv => iv = .int .i64 0) (fun _ => 0)
            case atStart => rfl
            case round =>
              obtain rfl := hrel
              have e15 := blk_c HB2.out (Below.refl _ _) (i := 15) rfl
              have f15 := blk_f HB2.out (Below.refl _ _) 15
              have HB3 : Hid ((X2.setCell ⟨b, 15, none⟩ (.int .i64 (F.length : Nat))).heap[b]? = some (.cells #[.string ⟨#[]⟩, .int .i64 cpu, .int .i64 mem, .int .i64 (gn : Nat), .string ⟨#[]⟩, .slice none 0 0, .int .i64 0, .int .i64 0, (.slice (some ⟨g8, 0, none⟩) gn gn), (.slice (some ⟨g9, 0, none⟩) gn gn), (.slice (some ⟨g10, 0, none⟩) gn gn), .int .i64 (sumN fr : Nat), (.slice (some ⟨gi, 0, none⟩) gn gn), v13, .int .u64 0, .int .i64 (F.length : Nat), .int .i64 0, .int .i64 0, .int .i64 0, .int .i64 0, .slice none 0 0, .int .i64 0, .bool false, .int .i64 0] 66 (0, 0))) := setCell_blk HB2.out _
              have O3 : Hid (OnlyS [b, w1.heap.size + 1 + 1] wr (X2.setCell ⟨b, 15, none⟩ (.int .i64 (F.length : Nat)))) := O2.out.setCell (.inl (by simp)) _
              have hkb : wr.heap.size ≠ b := by omega
              have HK3 : Hid ((X2.setCell ⟨b, 15, none⟩ (.int .i64 (F.length : Nat))).heap[wr.heap.size]? = some (.cells #[.int .i64 cpu, .int .i64 mem, .int .i64 (gn : Nat)] 70)) := (Below.heap_setCell _ _ _ _ hkb).trans HK2.out
              have HF3 : Hid (MapIs3 (X2.setCell ⟨b, 15, none⟩ (.int .i64 (F.length : Nat))) (w1.heap.size + 1 + 1) (esOf F)) := MapIs3.kept HF2.out (Below.heap_setCell _ _ _ _ hqb)
              go_upto_region 39 with fail
              generalize hX3 : X2.setCell ⟨b, 15, none⟩ (.int .i64 (F.length : Nat)) = X3 at *
              clear hX3 e15 f15 k0 k1 k2 O2 HB2 HK2 HF2
              have k0 := blk_c HK3.out (Below.refl _ _) (i := 0) rfl
              have k1 := blk_c HK3.out (Below.refl _ _) (i := 1) rfl
              have k2 := blk_c HK3.out (Below.refl _ _) (i := 2) rfl
              obtain ⟨i71', hi71', hz71', hs71', hb71'⟩ := info_parts Tryz.info71
              go_upto_region 40 with (first
                | (refine wpList_mapEntryK _ rfl _ _ rfl (w1.heap.size + 1 + 1) (esOf F) (MapIs3.kept HF3.out (heap_alloc_old _ _ (MapIs3.lt HF3.out))) (cpu, mem, (gn : Int)) rfl rfl HLK.out ?_; intro X5 hg5 hm5; have HG5 : Hid _ := hg5; have HM5 : Hid (MapHalf3 X5 (w1.heap.size + 1 + 1) (esOf F) (cpu, mem, (gn : Int))) := hm5; clear hg5 hm5)
                | (at_builtin; refine wpList_append_own _ rfl _ _ 51 rfl X3.heap.size 71 i71' (.pointer none) 1 8 Tryz.underlying51 hi71' hz71' hs71' hb71' rfl (by decide) (.slice none 0 0) 0 [] rfl ⟨by simp, .inl ⟨rfl, rfl⟩⟩ ⟨X3.heap.size, 0, none⟩ 1 1 [.pointer (some ⟨b, 0, none⟩)] rfl rfl (fun j u hu => cell_other HG5.out (cell_one_new _ _ _ j u hu) (by have := MapIs3.lt HF3.out; rw [add_block]; simp only; omega)) (by intro u hu; simp at hu; subst hu; rfl) (by unfold maxLen; omega) (by omega) (by have := HG5.out.size; simp at this; omega) ?_; intro v' X6 hown6 hgrow6 _; have HG6 : Hid _ := hgrow6; obtain ⟨g6, c6, rfl⟩ := owns_form' hown6 (by omega); have HW6 : Hid (X6.ownsRow X3.heap.size 71 1 (.slice (some ⟨g6, 0, none⟩) 1 c6) 1 [.pointer (some ⟨b, 0, none⟩)]) := hown6; clear hown6 hgrow6)
                | (refine wpList_entryStoreK _ rfl _ _ _ rfl (w1.heap.size + 1 + 1) (esOf F) (cpu, mem, (gn : Int)) (MapHalf3.kept HM5.out (HG6.out.block _ (by have := MapIs3.lt HF3.out; have := HG5.out.size; simp at this; omega) (by simp [Value.ownBlock]))) rfl rfl _ rfl ?_; intro X7 hg7 hm7; have HG7x : Hid _ := hg7; have HM7 : Hid (MapIs3 X7 (w1.heap.size + 1 + 1) (esOf (F ++ [(keyOf (cpu, mem, gn), g6, c6)]))) := by show MapIs3 _ _ _; rw [esOf_snoc]; exact hm7))
              clear hg7 hm7
              have hl3 : (w1.heap.size + 1 + 1) < X3.heap.size := MapIs3.lt HF3.out
              have O7 : Hid (OnlyS [b, w1.heap.size + 1 + 1] wr X7) := (((O3.out.trans (OnlyS.of (below_alloc1 _ _))).grown HG5.out (fun q hq => .inl (by cases hq; simp))).grown HG6.out (fun q hq => by cases hq)).grown HG7x.out (fun q hq => .inl (by cases hq; simp))
              have HB7 : Hid (X7.heap[b]? = some (.cells #[.string ⟨#[]⟩, .int .i64 cpu, .int .i64 mem, .int .i64 (gn : Nat), .string ⟨#[]⟩, .slice none 0 0, .int .i64 0, .int .i64 0, (.slice (some ⟨g8, 0, none⟩) gn gn), (.slice (some ⟨g9, 0, none⟩) gn gn), (.slice (some ⟨g10, 0, none⟩) gn gn), .int .i64 (sumN fr : Nat), (.slice (some ⟨gi, 0, none⟩) gn gn), v13, .int .u64 0, .int .i64 (F.length : Nat), .int .i64 0, .int .i64 0, .int .i64 0, .int .i64 0, .slice none 0 0, .int .i64 0, .bool false, .int .i64 0] 66 (0, 0))) := grown_blk HG7x.out (grown_blk HG6.out (grown_blk HG5.out (alloc_blk HB3.out _) (fun e => hqb (Option.some.inj e))) (by simp [Value.ownBlock])) (fun e => hqb (Option.some.inj e))
              have hg6 : X3.heap.size ≤ g6 := owns_block HW6.out g6 rfl
              have HC6 : Hid (X7.cell? ⟨g6, 0, none⟩ = some (.pointer (some ⟨b, 0, none⟩))) := cell_other HG7x.out ((HW6.out.cellAt 0 (by omega)).trans rfl) (by simp only; omega)
              have hwr3 : wr.heap.size ≤ X3.heap.size := O3.out.size
              clear HG5 HG6 HG7x HM5 HB3 HK3 HF3 O3 k0 k1 k2 HW6
              have nS : ∀ q, q ≠ b → q ≠ w1.heap.size + 1 + 1 → q ∉ [b, w1.heap.size + 1 + 1] := fun q h1 h2 => by simp only [List.mem_cons, List.not_mem_nil, or_false, not_or]; exact ⟨h1, h2⟩
              have R8 : Hid _ := O7.out.owns A8.out (fun q hq => by cases hq; exact nS g8 (fun e => HG8.out (by rw [e]; simp)) (by have := owns_block A8.out g8 rfl; omega))
              have RI : Hid _ := O7.out.owns AI.out (fun q hq => by cases hq; exact nS gi (fun e => HBG.out e.symm) (by have := HGI5.out; omega))
              have RF : Hid _ := O7.out.owns AFr.out (fun q hq => by have h1 := owns_block AFr.out q hq; have h2 := HG7.out.1; exact nS q (by omega) (by omega))
              have M7 : Hid _ := O7.out.blk AM.out (nS _ (by omega) (by omega))
              have S7 : Hid _ := O7.out.blk AS.out (nS _ (by omega) (by omega))
              have N7 : Hid _ := O7.out.owns AN.out (fun q hq => by cases hq; exact nS w.heap.size (by have := HWn.out; omega) (by omega))
              have HA7 : Hid (Aux X7 b (.slice none 0 0) (.slice (some ⟨g8, 0, none⟩) gn gn) (List.replicate gn true)) := aux_none R8.out (fun e => HG8.out (by rw [e]; simp))
              have MX7 : Hid (MixAt X7 w1.heap.size) := ⟨blk_c M7.out (Below.refl _ _) (i := 0) rfl, blk_c M7.out (Below.refl _ _) (i := 1) rfl, blk_c M7.out (Below.refl _ _) (i := 2) rfl⟩
              have s1 := blk_c S7.out (Below.refl _ _) (i := 1) rfl
              go_wp2_with fail
              refine (weighF b w1.heap.size gn (sumN fr) cpu mem (F.length : Nat) _ _ _ _ _ _ (List.replicate gn true) X7 (fun h hh => (List.mem_replicate.1 hh).2) HB7.out HA7.out MX7.out (by omega) (by rw [List.length_replicate]; exact hn) hc0 hc1 hm0 hm1).mono ?_
              rintro e X8 ⟨rfl, ho8, x, fits, hx8, hB8⟩
              rw [List.length_replicate] at hx8
              have HB8 : Hid _ := hB8
              have HO8 : Hid _ := ho8
              clear hB8 ho8 s1
              have hsb : w1.heap.size + 1 ≠ b := by omega
              have hnb' : w.heap.size ≠ b := by have := HWn.out; omega
              have S8 : Hid (X8.heap[w1.heap.size + 1]? = some (.cells #[.slice (some ⟨w.heap.size, 0, none⟩) ns.length ns.length, .pointer (some ⟨w1.heap.size, 0, none⟩), .slice none 0 0, .slice none 0 0] 58 (0, 0))) := (HO8.out.block _ (heap_lt S7.out) hsb).trans S7.out
              have N8 : Hid (X8.ownsRow w.heap.size 71 1 (.slice (some ⟨w.heap.size, 0, none⟩) ns.length ns.length) ns.length (ptrs ns.length bs)) := ownsRow_same N7.out (fun q hq => by cases hq; exact HO8.out.block _ (ownsRow_lt N7.out _ rfl) hnb')
              have s0 := blk_c S8.out (Below.refl _ _) (i := 0) rfl
              have hbl : bs.length = jo := HR.out.blen
              have n0' : X8.cell? ⟨w.heap.size, jo, none⟩ = some (.pointer none) := (N8.out.cellAt jo (by omega)).trans (by rw [← hbl]; exact ptrs_next (by omega))
              have nf := N8.out.frozenAt jo
              have DONE : Hid (RunN w W0.heap.size w1.heap.size (w1.heap.size + 1) (w1.heap.size + 1 + 1) ns (jo + 1) (F ++ [(keyOf (cpu, mem, gn), g6, c6)]) (bs ++ [b]) (X8.setCell ⟨w.heap.size, jo, none⟩ (.pointer (some ⟨b, 0, none⟩)))) := by
                have oo : ∀ q, q ≠ w.heap.size → (X8.setCell ⟨w.heap.size, jo, none⟩ (.pointer (some ⟨b, 0, none⟩))).heap[q]? = X8.heap[q]? := fun q hq => Below.heap_setCell _ _ _ _ hq
                have o78 : ∀ q, q < X7.heap.size → q ≠ b → X8.heap[q]? = X7.heap[q]? := HO8.out.block
                have l78 := HO8.out.size
                have l27 := O7.out.size
                have lw := HWn.out
                have hsz9 : (X8.setCell ⟨w.heap.size, jo, none⟩ (.pointer (some ⟨b, 0, none⟩))).heap.size = X8.heap.size := by simp [World.setCell]
                have lift : ∀ {e : TypeId} {size : Nat} {v : Value} {n : Nat} {ys : List Value} {B : Nat}, X7.ownsRow B e size v n ys → WS.heap.size ≤ B → (∀ q, v.ownBlock = some q → q ≠ b) → (X8.setCell ⟨w.heap.size, jo, none⟩ (.pointer (some ⟨b, 0, none⟩))).ownsRow WS.heap.size e size v n ys := fun h hB hne =>
                  owns_low (ownsRow_same h (fun q hq => by
                    have h1 := owns_block h q hq
                    rw [oo q (by omega)]
                    exact o78 q (ownsRow_lt h q hq) (hne q hq))) hB
                have KZ : Keep W0.heap.size WS (X8.setCell ⟨w.heap.size, jo, none⟩ (.pointer (some ⟨b, 0, none⟩))) := fun q h1 h2 => by
                  rw [oo q (by omega), o78 q (by omega) (by omega), O7.out.block q (by omega) (nS q (by omega) (by omega))]
                  exact KW.out q h1 h2
                have BZ : ∀ w', Keep WS.heap.size (X8.setCell ⟨w.heap.size, jo, none⟩ (.pointer (some ⟨b, 0, none⟩))) w' → BookF w' b (cpu, mem, gn) F.length :=
                  bookF_of (v13 := v13) (xs := xs) ((oo b (by omega)).trans HB8.out) bLow hx8 (lift R8.out (by omega) (fun q hq e => by cases hq; exact HG8.out (by have e' : g8 = b := e; rw [e']; simp))) (lift RI.out (by omega) (fun q hq => by cases hq; exact fun e => HBG.out e.symm)) AIx.out (lift RF.out (by omega) (fun q hq => by have h1 := owns_block RF.out q hq; have h2 := HG7.out.1; omega)) HS.out HNL.out
                refine ⟨?_, by rw [hsz9]; omega, ?_, ?_, ?_, by simp [hbl], ?_, ?_, ?_, ?_⟩
                · have h1 : Below w.heap.size w wr := hbC.trans (hbS7.mono (by omega)) |>.trans (LON.out.below (by omega) (fun q hq => by simp only [List.mem_cons, List.not_mem_nil, or_false] at hq; have := HGI5.out; rcases hq with rfl | rfl | rfl <;> omega))
                  have h2 : Below w.heap.size w X7 := h1.trans (O7.out.below (by omega) (fun q hq => by simp only [List.mem_cons, List.not_mem_nil, or_false] at hq; rcases hq with rfl | rfl <;> omega))
                  exact (h2.trans (HO8.out.below (by omega) (by omega))).setCell (Nat.le_refl _) _
                · rw [oo _ (by omega), o78 _ (heap_lt M7.out) (by omega)]
                  exact M7.out
                · rw [oo _ (by omega)]
                  exact S8.out
                · have := (N8.out.stored jo (.pointer (some ⟨b, 0, none⟩))).1
                  rw [← hbl, ptrs_set ns.length bs b (by omega)] at this
                  rw [← hbl]
                  exact this
                · exact MapIs3.kept HM7.out ((oo _ (by omega)).trans (o78 _ (MapIs3.lt HM7.out) (by omega)))
                · exact keys_snoc HR.out.keys HNK.out
                · simp; omega
                · exact old_new HR.out.old (by rw [hsz9]; omega) hW0 KZ hbl HND0.out (by omega) (by have h := HC6.out; have hl := cell_lt h; unfold World.cell? at h ⊢; rw [oo _ (by simp only; omega), o78 _ hl (by simp only; omega)]; exact h) BZ
              go_wp2_with fail
              go_roundw
              case rel => first | exact ⟨jo + 1, (F ++ [(keyOf (cpu, mem, gn), g6, c6)]), bs ++ [b], by omega, by go_num, by first | go_num | (simp; done) | (rw [List.length_append, List.length_singleton]; go_num) | (simp; go_num), DONE.out⟩ | ((repeat apply Exists.intro); exact ⟨⟨jo + 1, (F ++ [(keyOf (cpu, mem, gn), g6, c6)]), bs ++ [b], by omega, by go_num, by first | go_num | (simp; done) | (rw [List.length_append, List.length_singleton]; go_num) | (simp; go_num), DONE.out⟩, rfl⟩)
              case measure => simp [intOf]; omega

    · obtain rfl : jo = ns.length := by omega
      obtain ⟨wo, hwo⟩ : ∃ wo, wo = WS := ⟨_, rfl⟩
      subst hwo
      have hse : w1.heap.size + 1 < W0.heap.size := by omega
      obtain ⟨i23, hi23, hz23, hs23, hb23⟩ := info_parts Tryz.info23
      obtain ⟨i3, hi3, hz3, hs3, hy3⟩ := info_parts Tryz.info3
      have hwe := HWn.out
      go_upto_region 44 with (at_make; go_must (refine wpList_make_full _ rfl _ _ 56 rfl wo.heap.size 23 i23 (.slice none 0 0) 1 Tryz.underlying56 hi23 hz23 hs23 .i64 .i64 _ _ F.length rfl rfl rfl rfl (by rw [hb23]; omega) (by unfold maxLen; omega) (Nat.le_refl _) ?_); intro Y1 hown1 hgrow1; have HY1 : Hid _ := hown1; have hbY1 : Below wo.heap.size wo Y1 := (Below.refl _ _).grown hgrow1 (Nat.le_refl _) (fun k h => by cases h); have HS1 : Hid _ := (hbY1.block _ (heap_lt HSH.out)).trans HSH.out; have c2 := blk_c HS1.out (Below.refl _ _) (i := 2) rfl; have f2 := blk_f HS1.out (Below.refl _ _) 2; clear hown1 hgrow1)
      have HY1' : Hid (Y1.ownsRow wo.heap.size 23 1 (.slice (some ⟨wo.heap.size, 0, none⟩) F.length F.length) F.length (List.replicate F.length (.slice none 0 0))) := by
        have e : (madeCells (Value.slice none 0 0).cells (F.length * 1)).toList = List.replicate F.length (.slice none 0 0) := by
          rw [Nat.mul_one]
          exact toList_madeCells_one _ _
        show Y1.ownsRow _ _ _ _ _ _
        rw [← e]; exact HY1.out
      have HS2 : Hid ((Y1.setCell ⟨w1.heap.size + 1, 2, none⟩ (.slice (some ⟨wo.heap.size, 0, none⟩) F.length F.length)).heap[w1.heap.size + 1]? = some (.cells #[.slice (some ⟨w.heap.size, 0, none⟩) ns.length ns.length, .pointer (some ⟨w1.heap.size, 0, none⟩), (.slice (some ⟨wo.heap.size, 0, none⟩) F.length F.length), .slice none 0 0] 58 (0, 0))) := setCell_blk HS1.out _
      have o12 : Hid (∀ q, q < wo.heap.size → q ≠ w1.heap.size + 1 → (Y1.setCell ⟨w1.heap.size + 1, 2, none⟩ (.slice (some ⟨wo.heap.size, 0, none⟩) F.length F.length)).heap[q]? = wo.heap[q]?) := fun q hq hne => (Below.heap_setCell _ _ _ _ hne).trans (hbY1.block q hq)
      have HI2 : Hid ((Y1.setCell ⟨w1.heap.size + 1, 2, none⟩ (.slice (some ⟨wo.heap.size, 0, none⟩) F.length F.length)).ownsRow wo.heap.size 23 1 (.slice (some ⟨wo.heap.size, 0, none⟩) F.length F.length) F.length (List.replicate F.length (.slice none 0 0))) := owns_setCell HY1'.out (fun q hq => by cases hq; simp only; omega)
      have hbw2 : Below w.heap.size w (Y1.setCell ⟨w1.heap.size + 1, 2, none⟩ (.slice (some ⟨wo.heap.size, 0, none⟩) F.length F.length)) := (hbC.trans (hbY1.mono hbC.size)).setCell (by simp only; omega) _
      have hsz2 : Hid (wo.heap.size < (Y1.setCell ⟨w1.heap.size + 1, 2, none⟩ (.slice (some ⟨wo.heap.size, 0, none⟩) F.length F.length)).heap.size) := by have := ownsRow_lt HY1'.out _ rfl; show _ < _; simpa [World.setCell] using this
      generalize hY2 : Y1.setCell ⟨w1.heap.size + 1, 2, none⟩ (.slice (some ⟨wo.heap.size, 0, none⟩) F.length F.length) = Y2 at *
      clear hY2 c2 f2 HY1 HY1' HS1 hbY1
      have NU : Hid (Nums w.heap.size w1.heap.size (w1.heap.size + 1) W0.heap.size wo.heap.size Y2.heap.size) := ⟨hng, by omega, by omega, hW0, hsz2.out⟩
      have FIN0 : Hid (FinN w W0.heap.size wo Y2.heap.size w1.heap.size (w1.heap.size + 1) ns F bs 0 0 Y2) := by
        refine ⟨hbw2, Nat.le_refl _, fun q h1 h2 => o12.out q h2 (by omega), (o12.out _ (by omega) (by omega)).trans HMX.out, ownsRow_same HNG.out (fun q hq => by cases hq; exact o12.out _ (by simp only; omega) (by simp only; omega)), .slice none 0 0, _, HS2.out, HI2.out, ⟨by simp [vsOf], .inl ⟨rfl, by simp [vsOf]⟩⟩, ⟨fun i v hv => ?_, fun i v g hv hg => ?_, fun i i' v v' g hv hv' hg hg' => ?_⟩⟩
        · have := (List.mem_replicate.1 (List.mem_of_getElem? hv)).2
          subst this
          exact ⟨0, [], ⟨by simp, .inl ⟨rfl, rfl⟩⟩, Nat.le_refl _, fun _ => fun ⟨u, _, _, _, hu, _⟩ => by omega, fun _ => rfl⟩
        · have := (List.mem_replicate.1 (List.mem_of_getElem? hv)).2
          subst this
          cases hg
        · have := (List.mem_replicate.1 (List.mem_of_getElem? hv)).2
          subst this
          cases hg
      have s0 := blk_c HS2.out (Below.refl _ _) (i := 0) rfl
      go_wp2_with fail
      clear HS2 o12 HI2 hbw2
      go_loopw [196] (fun iv z => ∃ t : Nat, t ≤ ns.length ∧ iv = .int .i64 t ∧ Hid (FinN w W0.heap.size wo Y2.heap.size w1.heap.size (w1.heap.size + 1) ns F bs t t z)) (fun iv _ => ns.length - (intOf iv).toNat)
      case atStart => exact ⟨0, Nat.zero_le _, rfl, FIN0.out⟩
      case round =>
        clear FIN0 s0
        obtain ⟨t, ht, rfl, HFI⟩ := hrel
        obtain ⟨z, hzz⟩ : ∃ z, z = wr := ⟨_, rfl⟩
        subst hzz
        by_cases htl : t < ns.length
        · obtain ⟨nd, hnd⟩ : ∃ nd, ns[t]? = some nd := ⟨ns[t], List.getElem?_eq_getElem htl⟩
          obtain ⟨b, hbt⟩ : ∃ b, bs[t]? = some b := ⟨bs[t]'(by have := HR.out.blen; omega), List.getElem?_eq_getElem _⟩
          obtain ⟨sp, g1, c1, hsp, hbk⟩ := (HR.out.old z HFI.out.keep).1 t b nd hbt hnd
          have HND : Hid (ns[t]? = some nd) := hnd
          have HBT : Hid (bs[t]? = some b) := hbt
          have HSP : Hid (F[sp]? = some (keyOf nd, g1, c1)) := hsp
          obtain ⟨vv, ls, hS, hI, hV, hOk⟩ := HFI.out.rest
          obtain ⟨va, vc, hvv, -⟩ := owns_slice hV
          rw [hvv] at hS hV hOk
          clear hvv
          have hspl : sp < F.length := (List.getElem?_eq_some_iff.1 hsp).1
          have hll : ls.length = F.length := by have := hI.1; omega
          obtain ⟨v, hv⟩ : ∃ v, ls[sp]? = some v := ⟨ls[sp]'(by omega), List.getElem?_eq_getElem _⟩
          obtain ⟨l, xs, hrow, hlt, hl0⟩ := hOk.row sp v hv
          obtain ⟨ia, ic, hvv, -⟩ := owns_slice hrow
          have n00 : z.cell? ⟨w.heap.size, t, none⟩ = some (.pointer (some ⟨b, 0, none⟩)) := (HFI.out.nodes.cellAt t (by omega)).trans (ptrs_at hbt)
          have b15 : z.cell? ⟨b, 15, none⟩ = some (.int .i64 (sp : Nat)) := hbk.c15
          have i00 : z.cell? ⟨wo.heap.size, sp, none⟩ = some (.slice ia l ic) := (hI.cellAt sp (by omega)).trans (hvv ▸ hv)
          have s2 := blk_c hS (Below.refl _ _) (i := 2) rfl
          have s3 := blk_c hS (Below.refl _ _) (i := 3) rfl
          have HSz : Hid _ := hS
          have HVz : Hid _ := hV
          have hvl := vsOf_length ns t
          have hzs := HFI.out.size
          clear hS hI hV hOk hv hrow hvv hnd hbt hsp hbk hll
          by_cases h0 : l = 0
          · have hl0' : ((l : Int) == 0) = true := by simp [h0]
            have HFst : Hid (isFirst ns t = true) := (met_first HND.out HSP.out).2 (hl0.1 h0)
            go_wp2_with fail
            go_quiet (fail)
            go_upto_region 49 with (at_builtin; go_must (refine wpList_append_own_at _ rfl _ _ 23 rfl Y2.heap.size 3 i3 (.int .i64 0) 1 8 Tryz.underlying23 hi3 hz3 hs3 hy3 rfl (by decide) (.slice va (vsOf ns t).length vc) (vsOf ns t).length ((vsOf ns t).map natV) rfl (World.ownsRow.alloc (w := z.drewN _) HVz.out _) ⟨z.heap.size, 0, none⟩ 1 1 [.int .i64 (t : Nat)] rfl rfl (cell_one_new (z.drewN _) _ _) (by intro u hu; simp at hu; subst hu; rfl) (by unfold maxLen; omega) (by omega) (by simp [World.drewN]; omega) ?_); intro v' Y4 hown4 hgrow4 _ hat4; obtain ⟨gv, cv, rfl⟩ := owns_form' hown4 (by omega); have HV4 : Hid _ := hown4; have HG4 : Hid _ := hgrow4; have HA4 : Hid _ := hat4; have HS4 : Hid (Y4.heap[w1.heap.size + 1]? = some (.cells #[.slice (some ⟨w.heap.size, 0, none⟩) ns.length ns.length, .pointer (some ⟨w1.heap.size, 0, none⟩), (.slice (some ⟨wo.heap.size, 0, none⟩) F.length F.length), .slice va (vsOf ns t).length vc] 58 (0, 0))) := grown_blk HG4.out (alloc_blk (w := z.drewN _) HSz.out _) (fun e => by have := owns_block HVz.out _ e; have := NU.out.c; have := NU.out.d; have := NU.out.e; omega); have c3 := blk_c HS4.out (Below.refl _ _) (i := 3) rfl; have f3 := blk_f HS4.out (Below.refl _ _) 3; clear hown4 hgrow4 hat4)
            have HMID : Hid (FinN w W0.heap.size wo Y2.heap.size w1.heap.size (w1.heap.size + 1) ns F bs (t + 1) t (Y4.setCell ⟨w1.heap.size + 1, 3, none⟩ (.slice (some ⟨gv, 0, none⟩) ((vsOf ns t).length + 1) cv))) :=
              HFI.out.visit NU.out HFst.out HSz.out (below_drewN_alloc _ _ _) HV4.out HG4.out HA4.out
            generalize hY5 : Y4.setCell ⟨w1.heap.size + 1, 3, none⟩ (.slice (some ⟨gv, 0, none⟩) ((vsOf ns t).length + 1) cv) = Y5 at *
            clear hY5 hl0' c3 f3 HS4 HG4 HV4 HA4 s2 s3 n00 b15 i00 HSz HVz HFst HFI hzs
            obtain ⟨vv, ls, hS, hI, hV, hOk⟩ := HMID.out.rest
            have hll : ls.length = F.length := by have := hI.1; omega
            obtain ⟨v, hv⟩ : ∃ v, ls[sp]? = some v := ⟨ls[sp]'(by omega), List.getElem?_eq_getElem _⟩
            obtain ⟨l, xs, hrow, hlt, hl0⟩ := hOk.row sp v hv
            obtain ⟨ia, ic, hvv, -⟩ := owns_slice hrow
            rw [hvv] at hv hrow
            obtain ⟨S, hSd⟩ : ∃ S : List Nat, ∀ g, g ∈ S ↔ Value.ownBlock (.slice ia l ic) = some g := by
              cases ho : Value.ownBlock (.slice ia l ic) with
              | none => exact ⟨[], fun g => by simp⟩
              | some q => exact ⟨[q], fun g => by simp [eq_comm]⟩
            have HSd : Hid (∀ g, g ∈ S ↔ Value.ownBlock (.slice ia l ic) = some g) := hSd
            have hSlo : ∀ q, q < Y2.heap.size → q ∉ S := fun q hq e => by have := owns_block hrow q ((hSd q).1 e); omega
            have hShi : ∀ q ∈ S, q < Y5.heap.size := fun q e => ownsRow_lt hrow q ((hSd q).1 e)
            have HSHI : Hid (∀ q ∈ S, q < Y5.heap.size) := hShi
            have hbk := ((HR.out.old Y5 HMID.out.keep).1 t b nd HBT.out HND.out)
            have b15y : Y5.cell? ⟨b, 15, none⟩ = some (.int .i64 (sp : Nat)) := by
              obtain ⟨sp', g', c', h1, h2⟩ := hbk
              have e1 : (F.map (·.1))[sp']? = some (keyOf nd) := by rw [List.getElem?_map, h1]; rfl
              have e2 : (F.map (·.1))[sp]? = some (keyOf nd) := by rw [List.getElem?_map, HSP.out]; rfl
              have e : sp' = sp := (List.getElem?_inj (List.getElem?_eq_some_iff.1 e1).1 HR.out.keys).1 (e1.trans e2.symm)
              rw [← e]
              exact h2.c15
            have hb2 : b ∉ S := fun e => by
              obtain ⟨sp', g', c', h1, h2⟩ := ((HR.out.old wo (fun _ _ _ => rfl)).1 t b nd HBT.out HND.out)
              have := cell_lt h2.c15
              exact hSlo b (by have := hsz2.out; simp only at *; omega) e
            have q2 : ∀ p : InC (clsG S) Y5, p.W.cell? ⟨w1.heap.size + 1, 2, none⟩ = some (.slice (some ⟨wo.heap.size, 0, none⟩) F.length F.length) := fun p => p.only.1.cell (blk_c hS (Below.refl _ _) (i := 2) rfl) (hSlo _ (by have := NU.out.c; have := NU.out.d; have := NU.out.e; simp only; omega))
            have qb : ∀ p : InC (clsG S) Y5, p.W.cell? ⟨b, 15, none⟩ = some (.int .i64 (sp : Nat)) := fun p => p.only.1.cell b15y hb2
            have qi : ∀ p : InC (clsG S) Y5, p.W.cell? ⟨wo.heap.size, sp, none⟩ = some (.slice ia l ic) := fun p => p.only.1.cell ((hI.cellAt sp (by omega)).trans hv) (hSlo _ (by have := NU.out.e; simp only; omega))
            have HROW : Hid (Y5.ownsRow Y2.heap.size 3 1 (.slice ia l ic) l xs) := hrow
            have HIy : Hid (Y5.ownsRow wo.heap.size 23 1 (.slice (some ⟨wo.heap.size, 0, none⟩) F.length F.length) F.length ls) := hI
            have HVy : Hid (ls[sp]? = some (.slice ia l ic)) := hv
            have hY5s : Y2.heap.size ≤ Y5.heap.size := HMID.out.size
            clear hS hI hV hOk hv hrow hvv hSd hbk b15y hb2 hll hShi hl0
            have hneC : Nonempty (InC (clsG S) Y5) := ⟨⟨Y5, (clsG S).refl _⟩⟩
            refine MixC.wp_region_mix (clsG S) (MixC.mkKd [(19, .mk (fun u => ∃ g : Nat, u = .slice (some ⟨g, 0, none⟩) 1 1) (OneAt Y5.heap.size (.int .i64 (t : Nat))) []), (20, .mk (fun u => ∃ g c : Nat, u = .slice (some ⟨g, 0, none⟩) (l + 1) c) (RowG S Y2.heap.size Y5.heap.size l) [19]), (21, .pur), (22, .wr)]) (by kernel_rfl) (by kernel_rfl) (MixC.makers_of ?_) ?_
            · intro p hp
              simp only [List.mem_cons, List.not_mem_nil, or_false] at hp
              rcases hp with rfl | rfl | rfl | rfl
              · exact ⟨oneAt_lastsG S _ HSHI.out _, _, _, rfl, rfl, by simp⟩
              · exact ⟨rowG_lasts S _ _ _, _, _, rfl, rfl, by simp⟩
              · trivial
              · trivial
            iterate 19
              refine MixC.x_det rfl (fun K hK => ?_)
              go_simp
              refine hK _ ?_
              clear hK K
            refine MixC.x_mk _ _ _ rfl rfl (.slice (some ⟨0, 0, none⟩) 1 1) ⟨0, rfl⟩ (fun p _ => ?_) ?_
            · go_simp
              exact one_makesG p _
            rintro u ⟨g19, rfl⟩
            refine MixC.x_mk _ _ _ rfl rfl (.slice (some ⟨0, 0, none⟩) (l + 1) 0) ⟨0, 0, rfl⟩ (fun p hd => ?_) ?_
            · obtain ⟨g, e, hB, hg⟩ := hd 19 (by simp) _ _ _ _ rfl rfl
              have e' : Value.slice (some ⟨g19, 0, none⟩) 1 1 = .slice (some ⟨g, 0, none⟩) 1 1 := e
              obtain rfl : g19 = g := by simpa using e'
              obtain ⟨ys, hys⟩ := owns_G HROW.out p.only
              have lp := p.only.1.size
              exact append_makesG _ _ rfl rfl hys (fun g hg => (HSd.out g).2 hg) (by omega) lp (by omega) g19 (t : Nat) rfl hg
            rintro u ⟨g20, c20, rfl⟩
            refine MixC.x_pur rfl (fun K hK => ?_)
            go_simp
            refine hK _ ?_
            clear hK K
            refine MixC.x_wr (fun Z => ∃ Z0, OnlyG S Y5 Z0 ∧ RowG S Y2.heap.size Y5.heap.size l (.slice (some ⟨g20, 0, none⟩) (l + 1) c20) Z0 ∧ Z = Z0.setCell ⟨wo.heap.size, sp, none⟩ (.slice (some ⟨g20, 0, none⟩) (l + 1) c20)) rfl rfl ?_ ?_
            · intro Z0 hZ0
              have hbz : OnlyG S Y5 Z0 := hZ0.1
              have hrz : RowG S Y2.heap.size Y5.heap.size l (.slice (some ⟨g20, 0, none⟩) (l + 1) c20) Z0 := hZ0.2 20 _ _ _ _ rfl rfl rfl
              have hIz := hbz.1.owns HIy.out (fun q hq => by cases hq; exact hSlo _ (by have := NU.out.e; simp only; omega))
              have ci : Z0.cell? ⟨wo.heap.size, sp, none⟩ = some (.slice ia l ic) := (hIz.cellAt sp (by omega)).trans HVy.out
              have fi := hIz.frozenAt sp
              clear hZ0 q2 qb qi
              have HBZ : Hid _ := hbz
              have HRZ : Hid _ := hrz
              clear hbz hrz
              go_simp
              exact ⟨Z0, HBZ.out, HRZ.out, rfl⟩
            rintro Z ⟨Z0, hbz, hrz, rfl⟩
            have FIN : Hid (FinN w W0.heap.size wo Y2.heap.size w1.heap.size (w1.heap.size + 1) ns F bs (t + 1) (t + 1) (Z0.setCell ⟨wo.heap.size, sp, none⟩ (.slice (some ⟨g20, 0, none⟩) (l + 1) c20))) :=
              HMID.out.idle NU.out HR.out.keys HND.out HSP.out HIy.out HVy.out HROW.out hlt HSd.out hbz hrz
            clear q2 qb qi hbz hrz
            show Exit.inBlock _ _ _ _ _
            go_wp2_with fail
            go_roundw
            case rel => first | exact ⟨t + 1, by omega, by go_num, FIN.out⟩ | ((repeat apply Exists.intro); exact ⟨⟨t + 1, by omega, by go_num, FIN.out⟩, rfl⟩)
            case measure => simp [intOf]; omega

          · have hl0' : ((l : Int) == 0) = false := by simp; omega
            have HMID0 : Hid (FinN w W0.heap.size wo Y2.heap.size w1.heap.size (w1.heap.size + 1) ns F bs (t + 1) t z) := HFI.out.skip (fun e => h0 (hl0.2 ((met_first HND.out HSP.out).1 e)))
            go_wp2_with fail
            go_quiet (fail)
            go_upto_region 49 with fail
            generalize hY5 : z.drewN _ = Y5
            have HMID : Hid (FinN w W0.heap.size wo Y2.heap.size w1.heap.size (w1.heap.size + 1) ns F bs (t + 1) t Y5) := by show FinN _ _ _ _ _ _ _ _ _ _ _ _; rw [← hY5]; exact HMID0.out.drewN _
            clear hY5 hl0' s2 s3 n00 b15 i00 HSz HVz HFI hzs HMID0
            obtain ⟨vv, ls, hS, hI, hV, hOk⟩ := HMID.out.rest
            have hll : ls.length = F.length := by have := hI.1; omega
            obtain ⟨v, hv⟩ : ∃ v, ls[sp]? = some v := ⟨ls[sp]'(by omega), List.getElem?_eq_getElem _⟩
            obtain ⟨l, xs, hrow, hlt, hl0⟩ := hOk.row sp v hv
            obtain ⟨ia, ic, hvv, -⟩ := owns_slice hrow
            rw [hvv] at hv hrow
            obtain ⟨S, hSd⟩ : ∃ S : List Nat, ∀ g, g ∈ S ↔ Value.ownBlock (.slice ia l ic) = some g := by
              cases ho : Value.ownBlock (.slice ia l ic) with
              | none => exact ⟨[], fun g => by simp⟩
              | some q => exact ⟨[q], fun g => by simp [eq_comm]⟩
            have HSd : Hid (∀ g, g ∈ S ↔ Value.ownBlock (.slice ia l ic) = some g) := hSd
            have hSlo : ∀ q, q < Y2.heap.size → q ∉ S := fun q hq e => by have := owns_block hrow q ((hSd q).1 e); omega
            have hShi : ∀ q ∈ S, q < Y5.heap.size := fun q e => ownsRow_lt hrow q ((hSd q).1 e)
            have HSHI : Hid (∀ q ∈ S, q < Y5.heap.size) := hShi
            have hbk := ((HR.out.old Y5 HMID.out.keep).1 t b nd HBT.out HND.out)
            have b15y : Y5.cell? ⟨b, 15, none⟩ = some (.int .i64 (sp : Nat)) := by
              obtain ⟨sp', g', c', h1, h2⟩ := hbk
              have e1 : (F.map (·.1))[sp']? = some (keyOf nd) := by rw [List.getElem?_map, h1]; rfl
              have e2 : (F.map (·.1))[sp]? = some (keyOf nd) := by rw [List.getElem?_map, HSP.out]; rfl
              have e : sp' = sp := (List.getElem?_inj (List.getElem?_eq_some_iff.1 e1).1 HR.out.keys).1 (e1.trans e2.symm)
              rw [← e]
              exact h2.c15
            have hb2 : b ∉ S := fun e => by
              obtain ⟨sp', g', c', h1, h2⟩ := ((HR.out.old wo (fun _ _ _ => rfl)).1 t b nd HBT.out HND.out)
              have := cell_lt h2.c15
              exact hSlo b (by have := hsz2.out; simp only at *; omega) e
            have q2 : ∀ p : InC (clsG S) Y5, p.W.cell? ⟨w1.heap.size + 1, 2, none⟩ = some (.slice (some ⟨wo.heap.size, 0, none⟩) F.length F.length) := fun p => p.only.1.cell (blk_c hS (Below.refl _ _) (i := 2) rfl) (hSlo _ (by have := NU.out.c; have := NU.out.d; have := NU.out.e; simp only; omega))
            have qb : ∀ p : InC (clsG S) Y5, p.W.cell? ⟨b, 15, none⟩ = some (.int .i64 (sp : Nat)) := fun p => p.only.1.cell b15y hb2
            have qi : ∀ p : InC (clsG S) Y5, p.W.cell? ⟨wo.heap.size, sp, none⟩ = some (.slice ia l ic) := fun p => p.only.1.cell ((hI.cellAt sp (by omega)).trans hv) (hSlo _ (by have := NU.out.e; simp only; omega))
            have HROW : Hid (Y5.ownsRow Y2.heap.size 3 1 (.slice ia l ic) l xs) := hrow
            have HIy : Hid (Y5.ownsRow wo.heap.size 23 1 (.slice (some ⟨wo.heap.size, 0, none⟩) F.length F.length) F.length ls) := hI
            have HVy : Hid (ls[sp]? = some (.slice ia l ic)) := hv
            have hY5s : Y2.heap.size ≤ Y5.heap.size := HMID.out.size
            clear hS hI hV hOk hv hrow hvv hSd hbk b15y hb2 hll hShi hl0
            have hneC : Nonempty (InC (clsG S) Y5) := ⟨⟨Y5, (clsG S).refl _⟩⟩
            refine MixC.wp_region_mix (clsG S) (MixC.mkKd [(19, .mk (fun u => ∃ g : Nat, u = .slice (some ⟨g, 0, none⟩) 1 1) (OneAt Y5.heap.size (.int .i64 (t : Nat))) []), (20, .mk (fun u => ∃ g c : Nat, u = .slice (some ⟨g, 0, none⟩) (l + 1) c) (RowG S Y2.heap.size Y5.heap.size l) [19]), (21, .pur), (22, .wr)]) (by kernel_rfl) (by kernel_rfl) (MixC.makers_of ?_) ?_
            · intro p hp
              simp only [List.mem_cons, List.not_mem_nil, or_false] at hp
              rcases hp with rfl | rfl | rfl | rfl
              · exact ⟨oneAt_lastsG S _ HSHI.out _, _, _, rfl, rfl, by simp⟩
              · exact ⟨rowG_lasts S _ _ _, _, _, rfl, rfl, by simp⟩
              · trivial
              · trivial
            iterate 19
              refine MixC.x_det rfl (fun K hK => ?_)
              go_simp
              refine hK _ ?_
              clear hK K
            refine MixC.x_mk _ _ _ rfl rfl (.slice (some ⟨0, 0, none⟩) 1 1) ⟨0, rfl⟩ (fun p _ => ?_) ?_
            · go_simp
              exact one_makesG p _
            rintro u ⟨g19, rfl⟩
            refine MixC.x_mk _ _ _ rfl rfl (.slice (some ⟨0, 0, none⟩) (l + 1) 0) ⟨0, 0, rfl⟩ (fun p hd => ?_) ?_
            · obtain ⟨g, e, hB, hg⟩ := hd 19 (by simp) _ _ _ _ rfl rfl
              have e' : Value.slice (some ⟨g19, 0, none⟩) 1 1 = .slice (some ⟨g, 0, none⟩) 1 1 := e
              obtain rfl : g19 = g := by simpa using e'
              obtain ⟨ys, hys⟩ := owns_G HROW.out p.only
              have lp := p.only.1.size
              exact append_makesG _ _ rfl rfl hys (fun g hg => (HSd.out g).2 hg) (by omega) lp (by omega) g19 (t : Nat) rfl hg
            rintro u ⟨g20, c20, rfl⟩
            refine MixC.x_pur rfl (fun K hK => ?_)
            go_simp
            refine hK _ ?_
            clear hK K
            refine MixC.x_wr (fun Z => ∃ Z0, OnlyG S Y5 Z0 ∧ RowG S Y2.heap.size Y5.heap.size l (.slice (some ⟨g20, 0, none⟩) (l + 1) c20) Z0 ∧ Z = Z0.setCell ⟨wo.heap.size, sp, none⟩ (.slice (some ⟨g20, 0, none⟩) (l + 1) c20)) rfl rfl ?_ ?_
            · intro Z0 hZ0
              have hbz : OnlyG S Y5 Z0 := hZ0.1
              have hrz : RowG S Y2.heap.size Y5.heap.size l (.slice (some ⟨g20, 0, none⟩) (l + 1) c20) Z0 := hZ0.2 20 _ _ _ _ rfl rfl rfl
              have hIz := hbz.1.owns HIy.out (fun q hq => by cases hq; exact hSlo _ (by have := NU.out.e; simp only; omega))
              have ci : Z0.cell? ⟨wo.heap.size, sp, none⟩ = some (.slice ia l ic) := (hIz.cellAt sp (by omega)).trans HVy.out
              have fi := hIz.frozenAt sp
              clear hZ0 q2 qb qi
              have HBZ : Hid _ := hbz
              have HRZ : Hid _ := hrz
              clear hbz hrz
              go_simp
              exact ⟨Z0, HBZ.out, HRZ.out, rfl⟩
            rintro Z ⟨Z0, hbz, hrz, rfl⟩
            have FIN : Hid (FinN w W0.heap.size wo Y2.heap.size w1.heap.size (w1.heap.size + 1) ns F bs (t + 1) (t + 1) (Z0.setCell ⟨wo.heap.size, sp, none⟩ (.slice (some ⟨g20, 0, none⟩) (l + 1) c20))) :=
              HMID.out.idle NU.out HR.out.keys HND.out HSP.out HIy.out HVy.out HROW.out hlt HSd.out hbz hrz
            clear q2 qb qi hbz hrz
            show Exit.inBlock _ _ _ _ _
            go_wp2_with fail
            go_roundw
            case rel => first | exact ⟨t + 1, by omega, by go_num, FIN.out⟩ | ((repeat apply Exists.intro); exact ⟨⟨t + 1, by omega, by go_num, FIN.out⟩, rfl⟩)
            case measure => simp [intOf]; omega

        · obtain rfl : t = ns.length := by omega
          have H1 : Hid _ := HFI.out.low
          obtain ⟨vv, ls, hS, hI, hV, hOk⟩ := HFI.out.rest
          have H6 : Hid _ := hS
          have H7 : Hid _ := hV
          clear hS hI hV hOk
          go_wp2_with fail
          have hba : Below z.heap.size z (z.alloc (.cells #[.int .i32 0, .int .u32 0, .pointer none, .int .i32 0, .int .u32 0, .map none, .pointer none, .pointer none, .pointer none, .nilIface, .int .i64 0] 96)) := below_alloc1 _ _
          have HL0 : Hid ((z.alloc (.cells #[.int .i32 0, .int .u32 0, .pointer none, .int .i32 0, .int .u32 0, .map none, .pointer none, .pointer none, .pointer none, .nilIface, .int .i64 0] 96)).heap[z.heap.size]? = some (.cells #[.int .i32 0, .int .u32 0, .pointer none, .int .i32 0, .int .u32 0, .map none, .pointer none, .pointer none, .pointer none, .nilIface, .int .i64 0] 96)) := heap_alloc_new z _
          generalize hVV : z.alloc (.cells #[.int .i32 0, .int .u32 0, .pointer none, .int .i32 0, .int .u32 0, .map none, .pointer none, .pointer none, .pointer none, .nilIface, .int .i64 0] 96) = V at *
          clear hVV
          have HS6 : Hid _ := (hba.block _ (heap_lt H6.out)).trans H6.out
          refine (storeShelf z.heap.size 2 (w1.heap.size + 1) V _ _ (blk_c HL0.out (Below.refl _ _) (i := 2) rfl) (blk_f HL0.out (Below.refl _ _) 2) HS6.out rfl).mono ?_
          rintro e V2 ⟨rfl, hV2⟩
          have HV2 : Hid _ := hV2
          have oV : Hid (∀ q, q < z.heap.size → V2.heap[q]? = z.heap[q]?) := fun q hq => by
            rw [← HV2.out, Below.heap_setCell _ _ _ _ (by simp only; omega)]
            exact hba.block q hq
          have hbV : Hid (Below w.heap.size w V2) := by
            have := (H1.out.trans (hba.mono H1.out.size)).setCell (p := ⟨z.heap.size, 2, none⟩) H1.out.size (.pointer (some ⟨w1.heap.size + 1, 0, none⟩))
            rw [HV2.out] at this
            exact this
          have hlV0 : Hid (V2.heap[z.heap.size]? = some (.cells #[.int .i32 0, .int .u32 0, .pointer (some ⟨w1.heap.size + 1, 0, none⟩), .int .i32 0, .int .u32 0, .map none, .pointer none, .pointer none, .pointer none, .nilIface, .int .i64 0] 96 (0, 0))) := by
            show _ = _
            rw [← HV2.out]
            exact setCell_blk HL0.out _
          clear hV2 hba HL0
          go_wp2_with fail
          go_ret
          have lo := H1.out.size
          have hlV : V2.heap[z.heap.size]? = some (.cells #[.int .i32 0, .int .u32 0, .pointer (some ⟨w1.heap.size + 1, 0, none⟩), .int .i32 0, .int .u32 0, .map none, .pointer none, .pointer none, .pointer none, .nilIface, .int .i64 0] 96 (0, 0)) := hlV0.out
          refine ⟨hbV.out, z.heap.size, w1.heap.size + 1, w1.heap.size, #[.slice (some ⟨w.heap.size, 0, none⟩) ns.length ns.length, .pointer (some ⟨w1.heap.size, 0, none⟩), (.slice (some ⟨wo.heap.size, 0, none⟩) F.length F.length), vv], rfl, lo, hlV, rfl, rfl, heap_lt H6.out, fun Z hZ => ?_⟩
          have oZ : ∀ q, q < z.heap.size → Z.heap[q]? = z.heap[q]? := fun q hq => (hZ q hq).trans (oV.out q hq)
          have hsV := (oZ _ (heap_lt H6.out)).trans H6.out
          have hN5 := ownsRow_same HFI.out.nodes (fun q hq => by cases hq; exact oZ _ (by simp only; have := ownsRow_lt HFI.out.nodes _ rfl; omega))
          have hmV : Z.heap[w1.heap.size]? = some (.cells #[.slice none 0 0, .slice none 0 0, .int .i64 0] 55) := (oZ _ (heap_lt HFI.out.mix)).trans HFI.out.mix
          have hvV := ownsRow_same H7.out (fun q hq => oZ q (ownsRow_lt H7.out q hq))
          have hmix : MixAt Z w1.heap.size := ⟨blk_c hmV (Below.refl _ _) (i := 0) rfl, blk_c hmV (Below.refl _ _) (i := 1) rfl, blk_c hmV (Below.refl _ _) (i := 2) rfl⟩
          have hkV : Keep W0.heap.size wo Z := fun q h1 h2 => (oZ q (by have := HFI.out.size; have := NU.out.e; omega)).trans (HFI.out.keep q h1 h2)
          refine ⟨⟨fun i n hn => ?_, ?_, fun v hv => vsOf_lt hv, vsOf_sorted _ _, HBD.out, blk_c hsV (Below.refl _ _) (i := 1) rfl, hmix⟩, hsV⟩
          · obtain ⟨b, hbt⟩ : ∃ b, bs[i]? = some b := ⟨bs[i]'(by have := HR.out.blen; have := (List.getElem?_eq_some_iff.1 hn).1; omega), List.getElem?_eq_getElem _⟩
            obtain ⟨sp, g1, c1, hsp, hbk⟩ := (HR.out.old Z hkV).1 i b n hbt hn
            obtain ⟨fr, f1, f2, f3⟩ := hbk.fresh
            have hil := (List.getElem?_eq_some_iff.1 hn).1
            exact ⟨b, fr, ⟨⟨w.heap.size, 0, ns.length, ns.length, blk_c hsV (Below.refl _ _) (i := 0) rfl, hil, by rw [Nat.zero_add]; exact (hN5.cellAt i (by omega)).trans (ptrs_at hbt)⟩, blk_c hsV (Below.refl _ _) (i := 1) rfl, hmix⟩, f1, f2, f3⟩
          · obtain ⟨a, cap, e, hr⟩ := owns_slice hvV
            exact ⟨a, cap, by rw [← e]; exact blk_c hsV (Below.refl _ _) (i := 3) rfl, hr⟩


end Go.Proofs.Qxb6612460aGreatFmt
