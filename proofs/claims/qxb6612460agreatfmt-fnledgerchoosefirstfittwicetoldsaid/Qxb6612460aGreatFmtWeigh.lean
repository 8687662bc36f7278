import Derived.Test.Qxb6612460aGreatFmtZZ
namespace Go.Proofs.Qxb6612460aGreatFmt
open Go.RowKit Go.Sort
attribute [local go_sem] Option.isNone_none Option.isNone_some
attribute [local go_sem] sUpon mUpon
attribute [local go_sem] Mix.isVal Mix.makes

/-- Of the old blocks, b alone may have turned. -/
structure Only (b : Nat) (w w' : World) : Prop where
  os : w'.os = w.os
  tape : w'.tape = w.tape
  output : w'.output = w.output
  size : w.heap.size ≤ w'.heap.size
  block : ∀ k, k < w.heap.size → k ≠ b → w'.heap[k]? = w.heap[k]?
theorem Only.of {b : Nat} {w w' : World} (h : Below w.heap.size w w') : Only b w w' := ⟨h.os, h.tape, h.output, h.size, fun k hk _ => h.block k hk⟩
theorem Only.refl (b : Nat) (w : World) : Only b w w := Only.of (Below.refl _ _)
theorem Only.trans {b : Nat} {a c d : World} (h : Only b a c) (k : Only b c d) : Only b a d :=
  ⟨k.os.trans h.os, k.tape.trans h.tape, k.output.trans h.output, Nat.le_trans h.size k.size, fun q hq hne => (k.block q (Nat.lt_of_lt_of_le hq h.size) hne).trans (h.block q hq hne)⟩
theorem Only.setCell {b : Nat} {a c : World} (h : Only b a c) (i : Nat) (v : Value) : Only b a (c.setCell ⟨b, i, none⟩ v) :=
  ⟨h.os, h.tape, h.output, by simpa [World.setCell] using h.size, fun q hq hne => (Below.heap_setCell c ⟨b, i, none⟩ v q hne).trans (h.block q hq hne)⟩
theorem Only.cell {b : Nat} {w w' : World} (h : Only b w w') {p : Addr} (hp : p.block < w.heap.size) (hne : p.block ≠ b) : w'.cell? p = w.cell? p := by
  unfold World.cell?
  rw [h.block _ hp hne]
theorem Only.cell' {b : Nat} {w w' : World} (h : Only b w w') {p : Addr} {v : Value} (hv : w.cell? p = some v) (hne : p.block ≠ b) : w'.cell? p = some v := (h.cell (cell_lt hv) hne).trans hv
theorem Only.below {b B : Nat} {w w' : World} (h : Only b w w') (hB : B ≤ w.heap.size) (hb : B ≤ b) : Below B w w' := ⟨h.os, h.tape, h.output, h.size, fun k hk => h.block k (by omega) (by omega)⟩
theorem setCell_blk {w : World} {b i : Nat} {cs : Array Value} {t : TypeId} (h : w.heap[b]? = some (.cells cs t (0, 0))) (v : Value) : (w.setCell ⟨b, i, none⟩ v).heap[b]? = some (.cells (cs.setIfInBounds i v) t (0, 0)) := by
  rw [setCell_eq_setRow w b i cs t (0, 0) v h]
  exact setRow_heap w b cs _ t _ h

/-- The GPUs of books at b: who is healthy, and nothing held. -/
structure Aux (w : World) (b : Nat) (dv v8 : Value) (hs : List Bool) : Prop where
  dev : ∃ da dl dc, dv = .slice da dl dc ∧ ((dl = 0 ∧ ∀ (i : Nat) (h : Bool), hs[i]? = some h → h = true) ∨ (∃ d off, da = some ⟨d, off, none⟩ ∧ d ≠ b ∧ hs.length ≤ dl ∧ ∀ (i : Nat) (h : Bool), hs[i]? = some h → w.cell? ⟨d, off + i * 4 + 1, none⟩ = some (.bool (!h))))
  held : ∃ gh cap, v8 = .slice (some ⟨gh, 0, none⟩) hs.length cap ∧ gh ≠ b ∧ ∀ i, i < hs.length → w.cell? ⟨gh, i, none⟩ = some (.int .i64 0)
theorem Aux.only {w w' : World} {b : Nat} {dv v8 : Value} {hs : List Bool} (h : Aux w b dv v8 hs) (ho : Only b w w') : Aux w' b dv v8 hs where
  dev := by
    obtain ⟨da, dl, dc, e, h1 | ⟨d, off, h1, h2, h3, h4⟩⟩ := h.dev
    · exact ⟨da, dl, dc, e, .inl h1⟩
    · exact ⟨da, dl, dc, e, .inr ⟨d, off, h1, h2, h3, fun i hh hi => ho.cell' (h4 i hh hi) h2⟩⟩
  held := by
    obtain ⟨gh, cap, h1, h2, h3⟩ := h.held
    exact ⟨gh, cap, h1, h2, fun i hi => ho.cell' (h3 i hi) h2⟩
theorem Aux.health {w : World} {b : Nat} {dv v8 : Value} {hs : List Bool} (h : Aux w b dv v8 hs) (hc : w.cell? ⟨b, 5, none⟩ = some dv) {i : Nat} {hv : Bool} (hi : hs[i]? = some hv) : HealthAt w b i hv := by
  obtain ⟨da, dl, dc, rfl, ⟨h1, h2⟩ | ⟨d, off, h1, h2, h3, h4⟩⟩ := h.dev
  · exact ⟨da, dl, dc, hc, .inl ⟨h1, h2 i hv hi⟩⟩
  · have := (List.getElem?_eq_some_iff.1 hi).1
    exact ⟨da, dl, dc, hc, .inr ⟨by omega, d, off, h1, h4 i hv hi⟩⟩

theorem Tryz.info110 : (Tryz.prog.info? 110).map (fun i => (i.zero, i.size, i.bytes)) = some (some (.agg #[.int .i64 0, .int .i64 0, .int .i64 0]), 3, 24) := by kernel_rfl

theorem leftR (b id : Nat) (hv : Bool) (w : World) (h : HealthAt w b id hv) (g n cap : Nat) (hg : w.cell? ⟨b, 8, none⟩ = some (.slice (some ⟨g, 0, none⟩) n cap)) (hn : id < n) (hc : w.cell? ⟨g, id, none⟩ = some (.int .i64 0)) (d : Nat) (os : Array Obj) :
    Calls Tryz.prog 26 #[.pointer (some ⟨b, 0, none⟩), .int .i64 id] (grow (redrawn w d) os) fun e w'' => e = .returned (.int .i64 (if hv then 1000 else 0)) ∧ ∃ p : Regrown, w'' = grow (redrawn w p.d) p.os :=
  Calls.regrown_of ((left b id hv _ (h.below (below_regrown w d os)) g 0 n cap (cell_regrown hg d os) hn (by rw [Nat.zero_add]; exact cell_regrown hc d os)).mono (fun _ _ h => ⟨h.1, h.2 ▸ Below.refl _ _⟩))

set_option maxRecDepth 100000 in
set_option maxHeartbeats 4000000 in
theorem weigh (b m n fg : Nat) (cpu mem spec : Int) (dv v8 v9 v10 v12 v13 : Value) (hs : List Bool) (w : World) (hb : w.heap[b]? = some (.cells #[.string ⟨#[]⟩, .int .i64 cpu, .int .i64 mem, .int .i64 (n : Nat), .string ⟨#[]⟩, dv, .int .i64 0, .int .i64 0, v8, v9, v10, .int .i64 (fg : Nat), v12, v13, .int .u64 0, .int .i64 spec, .int .i64 0, .int .i64 0, .int .i64 0, .int .i64 0, .slice none 0 0, .int .i64 0, .bool false, .int .i64 0] 66 (0, 0)))
    (hA : Aux w b dv v8 hs) (hm : MixAt w m) (hmb : m ≠ b) (hn : hs.length ≤ 65536) (hc0 : 0 ≤ cpu) (hc1 : cpu ≤ 9223372036854775807) (hm0 : 0 ≤ mem) (hm1 : mem ≤ 9223372036854775807) :
    Calls Tryz.prog 21 #[.pointer (some ⟨b, 0, none⟩), .pointer (some ⟨m, 0, none⟩), .pointer none] w fun e w' => e = .returned (.tuple #[]) ∧ Only b w w' ∧ ∃ (x : Int) (fits : Value), w'.heap[b]? = some (.cells #[.string ⟨#[]⟩, .int .i64 cpu, .int .i64 mem, .int .i64 (n : Nat), .string ⟨#[]⟩, dv, .int .i64 0, .int .i64 0, v8, v9, v10, .int .i64 (fg : Nat), v12, v13, .int .u64 0, .int .i64 spec, .int .i64 x, .int .i64 (fg : Nat), .int .i64 cpu, .int .i64 mem, fits, .int .i64 0, .bool true, .int .i64 0] 66 (0, 0)) := by
  have HB : Hid _ := hb
  have HA : Hid _ := hA
  have HM : Hid _ := hm
  clear hA hm
  obtain ⟨i0, hi, hz0, hz1, hz2⟩ := info_parts Tryz.info110
  have c11 := blk_c hb (Below.refl _ _) (i := 11) rfl
  have c16 := blk_c hb (Below.refl _ _) (i := 16) rfl
  have c17 := blk_c hb (Below.refl _ _) (i := 17) rfl
  have f16 := blk_f hb (Below.refl _ _) 16
  have f17 := blk_f hb (Below.refl _ _) 17
  have H1 : Hid (((w.setCell ⟨b, 16, none⟩ (.int .i64 0)).setCell ⟨b, 17, none⟩ (.int .i64 (fg : Nat))).heap[b]? = some (.cells #[.string ⟨#[]⟩, .int .i64 cpu, .int .i64 mem, .int .i64 (n : Nat), .string ⟨#[]⟩, dv, .int .i64 0, .int .i64 0, v8, v9, v10, .int .i64 (fg : Nat), v12, v13, .int .u64 0, .int .i64 spec, .int .i64 0, .int .i64 (fg : Nat), .int .i64 0, .int .i64 0, .slice none 0 0, .int .i64 0, .bool false, .int .i64 0] 66 (0, 0))) := setCell_blk (setCell_blk hb _) _
  have O1 : Hid (Only b w ((w.setCell ⟨b, 16, none⟩ (.int .i64 0)).setCell ⟨b, 17, none⟩ (.int .i64 (fg : Nat)))) := ((Only.refl _ _).setCell _ _).setCell _ _
  go_enter Tryz.func21, Tryz.ntmps21
  go_upto_region 2 with fail
  generalize hW : (w.setCell ⟨b, 16, none⟩ (.int .i64 0)).setCell ⟨b, 17, none⟩ (.int .i64 (fg : Nat)) = W at *
  clear hW c11 c16 c17 f16 f17 hb
  have hwc : IntKind.i64.wrap cpu = cpu := by rw [IntKind.wrap_i64]; omega
  have hwm : IntKind.i64.wrap mem = mem := by rw [IntKind.wrap_i64]; omega
  have q1 := blk_r H1.out (i := 1) rfl
  have q2 := blk_r H1.out (i := 2) rfl
  have q6 := blk_r H1.out (i := 6) rfl
  have q7 := blk_r H1.out (i := 7) rfl
  refine Mix.wp_region_mix (Mix.mkKd [(6, .det), (10, .det), (16, .det), (20, .det), (24, .wr), (27, .wr), (0, .pur), (1, .pur), (2, .pur), (3, .pur), (4, .pur), (5, .pur), (7, .pur), (8, .pur), (9, .pur), (11, .pur), (12, .pur), (13, .pur), (14, .pur), (15, .pur), (17, .pur), (18, .pur), (19, .pur), (21, .pur), (22, .pur), (23, .pur), (25, .pur), (26, .pur)]) (by kernel_rfl) (by kernel_rfl) (Mix.makers_of ?_) ?_
  · intro p hp
    simp only [List.mem_cons, List.not_mem_nil, or_false] at hp
    rcases hp with rfl | rfl | rfl | rfl | rfl | rfl | rfl | rfl | rfl | rfl | rfl | rfl | rfl | rfl | rfl | rfl | rfl | rfl | rfl | rfl | rfl | rfl | rfl | rfl | rfl | rfl | rfl | rfl <;> trivial
  iterate 24
    (first
      | (refine Mix.x_pur rfl (fun K hK => ?_); go_simp; refine hK _ ?_; clear hK K)
      | (refine Mix.x_det rfl (fun K hK => ?_); go_simp; refine hK _ ?_; clear hK K))
  refine Mix.x_wr (fun W' => ∃ W1, Below W.heap.size W W1 ∧ W' = W1.setCell ⟨b, 18, none⟩ (.int .i64 cpu)) rfl rfl ?_ ?_
  · intro W1 hW1
    have c18 := blk_c H1.out hW1.1 (i := 18) rfl
    have f18 := blk_f H1.out hW1.1 18
    have hbw := hW1.1
    clear hW1 q1 q2 q6 q7
    go_simp
    first | exact ⟨W1, hbw, rfl⟩ | exact ⟨W1, hbw, by rw [hwc]⟩ | exact ⟨W1, hbw, by rw [hwm]⟩
  iterate 2
    refine Mix.x_pur rfl (fun K hK => ?_)
    go_simp
    refine hK _ ?_
    clear hK K
  refine Mix.x_wr (fun W' => ∃ W1, Below W.heap.size W W1 ∧ W' = (W1.setCell ⟨b, 18, none⟩ (.int .i64 cpu)).setCell ⟨b, 19, none⟩ (.int .i64 mem)) rfl rfl ?_ ?_
  · rintro W' ⟨W1, hbw, rfl⟩
    have c19 := blk_c H1.out hbw (i := 19) rfl
    have f19 := blk_f H1.out hbw 19
    clear q1 q2 q6 q7
    go_simp
    first | exact ⟨W1, hbw, rfl⟩ | exact ⟨W1, hbw, by rw [hwc]⟩ | exact ⟨W1, hbw, by rw [hwm]⟩
  rintro W' ⟨W1, hbw, rfl⟩
  have H2 : Hid (((W1.setCell ⟨b, 18, none⟩ (.int .i64 cpu)).setCell ⟨b, 19, none⟩ (.int .i64 mem)).heap[b]? = some (.cells #[.string ⟨#[]⟩, .int .i64 cpu, .int .i64 mem, .int .i64 (n : Nat), .string ⟨#[]⟩, dv, .int .i64 0, .int .i64 0, v8, v9, v10, .int .i64 (fg : Nat), v12, v13, .int .u64 0, .int .i64 spec, .int .i64 0, .int .i64 (fg : Nat), .int .i64 cpu, .int .i64 mem, .slice none 0 0, .int .i64 0, .bool false, .int .i64 0] 66 (0, 0))) := setCell_blk (setCell_blk ((hbw.block _ (heap_lt H1.out)).trans H1.out) _) _
  have O2 : Hid (Only b w ((W1.setCell ⟨b, 18, none⟩ (.int .i64 cpu)).setCell ⟨b, 19, none⟩ (.int .i64 mem))) := ((O1.out.trans (Only.of hbw)).setCell _ _).setCell _ _
  generalize hW2 : (W1.setCell ⟨b, 18, none⟩ (.int .i64 cpu)).setCell ⟨b, 19, none⟩ (.int .i64 mem) = W2 at *
  clear hW2 hbw q1 q2 q6 q7 H1 O1
  have c6 := blk_c H2.out (Below.refl _ _) (i := 6) rfl
  have c7 := blk_c H2.out (Below.refl _ _) (i := 7) rfl
  have c8 := blk_c H2.out (Below.refl _ _) (i := 8) rfl
  have c22 := blk_c H2.out (Below.refl _ _) (i := 22) rfl
  have f22 := blk_f H2.out (Below.refl _ _) 22
  have HA2 : Hid _ := HA.out.only O2.out
  obtain ⟨gh, gcap, hv8, hgb, hgz⟩ := HA2.out.held
  show Exit.then _ _ _ _ _
  have H3 : Hid ((W2.setCell ⟨b, 22, none⟩ (.bool true)).heap[b]? = some (.cells #[.string ⟨#[]⟩, .int .i64 cpu, .int .i64 mem, .int .i64 (n : Nat), .string ⟨#[]⟩, dv, .int .i64 0, .int .i64 0, v8, v9, v10, .int .i64 (fg : Nat), v12, v13, .int .u64 0, .int .i64 spec, .int .i64 0, .int .i64 (fg : Nat), .int .i64 cpu, .int .i64 mem, .slice none 0 0, .int .i64 0, .bool true, .int .i64 0] 66 (0, 0))) := setCell_blk H2.out _
  have O3 : Hid (Only b w (W2.setCell ⟨b, 22, none⟩ (.bool true))) := O2.out.setCell _ _
  go_upto_region 4 with fail
  generalize hW3 : W2.setCell ⟨b, 22, none⟩ (.bool true) = W3 at *
  clear hW3 c6 c7 c8 c22 f22 H2 O2 HA2 hgz
  have d8 : W3.cell? ⟨b, 8, none⟩ = some (.slice (some ⟨gh, 0, none⟩) hs.length gcap) := by
    have := blk_c H3.out (Below.refl _ _) (i := 8) rfl
    rw [hv8] at this
    exact this
  go_wp2_with fail
  go_loopw [71] (fun iv wr => ∃ (j : Nat) (x : Int), j ≤ hs.length ∧ iv = .int .i64 j ∧ 0 ≤ x ∧ x ≤ 1000 * j ∧ Hid (wr.heap[b]? = some (.cells #[.string ⟨#[]⟩, .int .i64 cpu, .int .i64 mem, .int .i64 (n : Nat), .string ⟨#[]⟩, dv, .int .i64 0, .int .i64 0, v8, v9, v10, .int .i64 (fg : Nat), v12, v13, .int .u64 0, .int .i64 spec, .int .i64 x, .int .i64 (fg : Nat), .int .i64 cpu, .int .i64 mem, .slice none 0 0, .int .i64 0, .bool true, .int .i64 0] 66 (0, 0))) ∧ Hid (Only b w wr)) (fun iv _ => hs.length - (intOf iv).toNat)
  case atStart => exact ⟨0, 0, Nat.zero_le _, rfl, Int.le_refl _, by simp, H3.out, O3.out⟩
  case round =>
    clear d8 H3 O3
    obtain ⟨j, x, hj, rfl, hx0, hx1, Hr, Or⟩ := hrel
    have HAr : Hid (Aux wr b dv v8 hs) := HA.out.only Or.out
    by_cases hjl : j < hs.length
    · obtain ⟨hv, hhv⟩ : ∃ hv, hs[j]? = some hv := ⟨hs[j], List.getElem?_eq_getElem hjl⟩
      have HHV : Hid _ := hhv
      clear hhv
      obtain ⟨gh', gcap', e8', hgb', hgz'⟩ := HAr.out.held
      obtain ⟨rfl, rfl⟩ : gh = gh' ∧ gcap = gcap' := by rw [hv8] at e8'; simpa using e8'
      have hz := hgz' j hjl
      have e8 : wr.cell? ⟨b, 8, none⟩ = some (.slice (some ⟨gh, 0, none⟩) hs.length gcap) := by
        have := blk_c Hr.out (Below.refl _ _) (i := 8) rfl
        rw [hv8] at this
        exact this
      have hH : Hid (HealthAt wr b j hv) := HAr.out.health (blk_c Hr.out (Below.refl _ _) (i := 5) rfl) HHV.out
      clear hgz' e8' hgb'
      go_upto_region 7 with fail
      have r16 := blk_r Hr.out (i := 16) rfl
      have HL : Hid _ := leftR b j hv wr hH.out gh hs.length gcap e8 hjl hz
      refine wp_region_quiet_list 8 (by kernel_rfl) (by kernel_rfl) (by kernel_rfl) ?_
      simp only [List.take_succ_cons, List.take_zero, List.drop_succ_cons, List.drop_zero]
      repeat (go_big_quiet_step (exact HL.out _ _))
      refine wpQuiet_nil ?_
      intro W5 hb5
      clear r16 e8 hz
      have H5 : Hid (W5.heap[b]? = some (.cells #[.string ⟨#[]⟩, .int .i64 cpu, .int .i64 mem, .int .i64 (n : Nat), .string ⟨#[]⟩, dv, .int .i64 0, .int .i64 0, v8, v9, v10, .int .i64 (fg : Nat), v12, v13, .int .u64 0, .int .i64 spec, .int .i64 x, .int .i64 (fg : Nat), .int .i64 cpu, .int .i64 mem, .slice none 0 0, .int .i64 0, .bool true, .int .i64 0] 66 (0, 0))) := (hb5.block _ (heap_lt Hr.out)).trans Hr.out
      have O5 : Hid (Only b w W5) := Or.out.trans (Only.of hb5)
      have s16 := blk_c H5.out (Below.refl _ _) (i := 16) rfl
      have s22 := blk_c H5.out (Below.refl _ _) (i := 22) rfl
      have g16 := blk_f H5.out (Below.refl _ _) 16
      have g22 := blk_f H5.out (Below.refl _ _) 22
      have HN : ∀ y : Int, Hid (((W5.setCell ⟨b, 16, none⟩ (.int .i64 y)).setCell ⟨b, 22, none⟩ (.bool true)).heap[b]? = some (.cells #[.string ⟨#[]⟩, .int .i64 cpu, .int .i64 mem, .int .i64 (n : Nat), .string ⟨#[]⟩, dv, .int .i64 0, .int .i64 0, v8, v9, v10, .int .i64 (fg : Nat), v12, v13, .int .u64 0, .int .i64 spec, .int .i64 y, .int .i64 (fg : Nat), .int .i64 cpu, .int .i64 mem, .slice none 0 0, .int .i64 0, .bool true, .int .i64 0] 66 (0, 0))) := fun y => setCell_blk (setCell_blk H5.out _) _
      have ON : ∀ y : Int, Hid (Only b w ((W5.setCell ⟨b, 16, none⟩ (.int .i64 y)).setCell ⟨b, 22, none⟩ (.bool true))) := fun y => (O5.out.setCell _ _).setCell _ _
      have HN' : Hid _ := HN
      have ON' : Hid _ := ON
      clear HN ON
      cases hv
      · go_wp2_with fail
        go_roundw
        case rel => first | exact ⟨j + 1, x, by omega, by go_num, by omega, by omega, (HN'.out x).out, (ON'.out x).out⟩ | ((repeat apply Exists.intro); exact ⟨⟨j + 1, x, by omega, by go_num, by omega, by omega, (HN'.out x).out, (ON'.out x).out⟩, rfl⟩)
        case measure => simp [intOf]; omega
      · go_wp2_with fail
        go_roundw
        case rel => first | exact ⟨j + 1, x + 1000, by omega, by go_num, by omega, by omega, (HN'.out (x + 1000)).out, (ON'.out (x + 1000)).out⟩ | ((repeat apply Exists.intro); exact ⟨⟨j + 1, x + 1000, by omega, by go_num, by omega, by omega, (HN'.out (x + 1000)).out, (ON'.out (x + 1000)).out⟩, rfl⟩)
        case measure => simp [intOf]; omega
    · obtain rfl : j = hs.length := by omega
      have Mr : Hid (MixAt wr m) := ⟨Or.out.cell' HM.out.1 hmb, Or.out.cell' HM.out.2.1 hmb, Or.out.cell' HM.out.2.2 hmb⟩
      have m0 := Mr.out.1
      clear hjl hj hx0 hx1
      go_wp2_with (at_make; go_must (refine wpList_make_any _ rfl _ _ 62 rfl wr.heap.size 110 i0 (.agg #[.int .i64 0, .int .i64 0, .int .i64 0]) 3 Tryz.underlying62 hi hz0 hz1 .i64 .i64 0 0 rfl rfl (Nat.le_refl _) (by rw [hz2]; omega) (by unfold maxLen; omega) (Nat.le_refl _) ?_); intro W6 hown6 hgrow6; have hb6 : Below wr.heap.size wr W6 := (Below.refl _ _).grown hgrow6 (Nat.le_refl _) (fun k h => by cases h); have H6 : Hid (W6.heap[b]? = some (.cells #[.string ⟨#[]⟩, .int .i64 cpu, .int .i64 mem, .int .i64 (n : Nat), .string ⟨#[]⟩, dv, .int .i64 0, .int .i64 0, v8, v9, v10, .int .i64 (fg : Nat), v12, v13, .int .u64 0, .int .i64 spec, .int .i64 x, .int .i64 (fg : Nat), .int .i64 cpu, .int .i64 mem, .slice none 0 0, .int .i64 0, .bool true, .int .i64 0] 66 (0, 0))) := (hb6.block _ (heap_lt Hr.out)).trans Hr.out; have O6 : Hid (Only b w W6) := Or.out.trans (Only.of hb6); have m6 := (Mr.out.below hb6).1; have M6 : Hid _ := Mr.out.below hb6; clear hown6 hgrow6 hb6; have t21 := blk_c H6.out (Below.refl _ _) (i := 21) rfl; have g21 := blk_f H6.out (Below.refl _ _) 21)
      have H7 : Hid ((W6.setCell ⟨b, 21, none⟩ (.int .i64 0)).heap[b]? = some (.cells #[.string ⟨#[]⟩, .int .i64 cpu, .int .i64 mem, .int .i64 (n : Nat), .string ⟨#[]⟩, dv, .int .i64 0, .int .i64 0, v8, v9, v10, .int .i64 (fg : Nat), v12, v13, .int .u64 0, .int .i64 spec, .int .i64 x, .int .i64 (fg : Nat), .int .i64 cpu, .int .i64 mem, .slice none 0 0, .int .i64 0, .bool true, .int .i64 0] 66 (0, 0))) := setCell_blk H6.out _
      have O7 : Hid (Only b w (W6.setCell ⟨b, 21, none⟩ (.int .i64 0))) := O6.out.setCell _ _
      have M7 : Hid (MixAt (W6.setCell ⟨b, 21, none⟩ (.int .i64 0)) m) := ⟨O7.out.cell' HM.out.1 hmb, O7.out.cell' HM.out.2.1 hmb, O7.out.cell' HM.out.2.2 hmb⟩
      generalize hW7 : W6.setCell ⟨b, 21, none⟩ (.int .i64 0) = W7 at *
      clear hW7 m6 t21 g21 m0
      have m7 := M7.out.1
      go_loop [112] (fun iv => iv = .int .i64 0) (fun _ => 0)
      case atStart => rfl
      case round =>
        obtain rfl := hrel
        have t20 := blk_c H7.out (Below.refl _ _) (i := 20) rfl
        have g20 := blk_f H7.out (Below.refl _ _) 20
        have H8 : Hid ((W7.setCell ⟨b, 20, none⟩ (.slice (some ⟨wr.heap.size, 0, none⟩) 0 0)).heap[b]? = some (.cells #[.string ⟨#[]⟩, .int .i64 cpu, .int .i64 mem, .int .i64 (n : Nat), .string ⟨#[]⟩, dv, .int .i64 0, .int .i64 0, v8, v9, v10, .int .i64 (fg : Nat), v12, v13, .int .u64 0, .int .i64 spec, .int .i64 x, .int .i64 (fg : Nat), .int .i64 cpu, .int .i64 mem, .slice (some ⟨wr.heap.size, 0, none⟩) 0 0, .int .i64 0, .bool true, .int .i64 0] 66 (0, 0))) := setCell_blk H7.out _
        have O8 : Hid (Only b w (W7.setCell ⟨b, 20, none⟩ (.slice (some ⟨wr.heap.size, 0, none⟩) 0 0))) := O7.out.setCell _ _
        go_wp2_with fail
        generalize hW8 : W7.setCell ⟨b, 20, none⟩ (.slice (some ⟨wr.heap.size, 0, none⟩) 0 0) = W8 at *
        clear hW8 t20 g20
        refine (stranded0 m b x W8 ⟨O8.out.cell' HM.out.1 hmb, O8.out.cell' HM.out.2.1 hmb, O8.out.cell' HM.out.2.2 hmb⟩ (blk_c H8.out (Below.refl _ _) (i := 16) rfl)).mono ?_
        rintro e w' ⟨rfl, rfl⟩
        have t23 := blk_c H8.out (Below.refl _ _) (i := 23) rfl
        have g23 := blk_f H8.out (Below.refl _ _) 23
        have H9 : Hid ((W8.setCell ⟨b, 23, none⟩ (.int .i64 0)).heap[b]? = some (.cells #[.string ⟨#[]⟩, .int .i64 cpu, .int .i64 mem, .int .i64 (n : Nat), .string ⟨#[]⟩, dv, .int .i64 0, .int .i64 0, v8, v9, v10, .int .i64 (fg : Nat), v12, v13, .int .u64 0, .int .i64 spec, .int .i64 x, .int .i64 (fg : Nat), .int .i64 cpu, .int .i64 mem, .slice (some ⟨wr.heap.size, 0, none⟩) 0 0, .int .i64 0, .bool true, .int .i64 0] 66 (0, 0))) := setCell_blk H8.out _
        have O9 : Hid (Only b w (W8.setCell ⟨b, 23, none⟩ (.int .i64 0))) := O8.out.setCell _ _
        go_wp2_with fail
        exact bodyPost_end (results_none rfl _ _ _) rfl ⟨rfl, O9.out, x, _, H9.out⟩

end Go.Proofs.Qxb6612460aGreatFmt
