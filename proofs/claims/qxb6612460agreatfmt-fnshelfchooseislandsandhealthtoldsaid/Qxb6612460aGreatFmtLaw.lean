import Derived.Test.Qxb6612460aGreatFmtLawS
import Derived.Test.Qxb6612460aGreatFmtNew
import Derived.Laws.StructEq
namespace Go.Proofs.Qxb6612460aGreatFmt
open Go.RowKit Go.Sort
attribute [local go_sem] Option.isNone_none Option.isNone_some
attribute [local go_sem] sUpon mUpon
attribute [local go_sem] Mix.isVal Mix.makes

theorem neq34_same (rc rm k : Int) (w : World) : (binOp .neq 34 (.agg #[.int .i64 rc, .int .i64 rm, .int .i64 k, .int .i64 0, .int .i64 0, .int .i64 0, .bool false, .string ⟨#[]⟩]) (.agg #[.int .i64 rc, .int .i64 rm, .int .i64 k, .int .i64 0, .int .i64 0, .int .i64 0, .bool false, .string ⟨#[]⟩])).run Tryz.prog w = .ok (.bool false) w := by
  rw [run_neq_struct, run_equalIn_agg w 9999 34 _ _ (by kernel_rfl) (by kernel_rfl)]
  simp [go_sem]
theorem bytes_beq_list (a b : ByteArray) : (a.toList == b.toList) = (a == b) := by
  rw [beq_bytes]
  by_cases h : a = b
  · subst h; simp
  · have h2 : a.toList ≠ b.toList := fun e => h (by
      rw [ByteArray.toList_eq, ByteArray.toList_eq] at e
      cases a; cases b
      simp only [ByteArray.mk.injEq]
      exact Array.toList_inj.1 e)
    simp [h, h2]
theorem devCells_set : ∀ (l : List (ByteArray × Bool)) (j : Nat) (d : ByteArray × Bool), j < l.length →
    ((((devCells l).set (j * 4) (.string d.1)).set (j * 4 + 1) (.bool d.2)).set (j * 4 + 2) (.int .i64 0)).set (j * 4 + 3) (.string ⟨#[]⟩) = devCells (l.set j d)
  | [], j, d, h => by simp at h
  | x :: r, 0, d, _ => by simp [devCells, devC]
  | x :: r, j + 1, d, h => by
    have ih := devCells_set r j d (by simpa using h)
    have e0 : (j + 1) * 4 = j * 4 + 4 := by omega
    rw [e0]
    have e1 : j * 4 + 4 + 1 = (j * 4 + 1) + 4 := by omega
    have e2 : j * 4 + 4 + 2 = (j * 4 + 2) + 4 := by omega
    have e3 : j * 4 + 4 + 3 = (j * 4 + 3) + 4 := by omega
    rw [e1, e2, e3]
    simp only [devCells, devC, List.cons_append, List.nil_append, List.set_cons_succ, ih]
theorem devCells_snoc : ∀ (l : List (ByteArray × Bool)) (d : ByteArray × Bool), devCells (l ++ [d]) = devCells l ++ devC d
  | [], d => by simp [devCells]
  | x :: r, d => by simp [devCells, devCells_snoc r d]
theorem madeDev : ∀ n : Nat, (madeCells (Value.agg #[.string ⟨#[]⟩, .bool false, .int .i64 0, .string ⟨#[]⟩]).cells (n * 4)).toList = devCells (List.replicate n (⟨#[]⟩, false))
  | 0 => by simp [madeCells, devCells]
  | n + 1 => by
    have ih := madeDev n
    have e : (n + 1) * 4 = n * 4 + 1 + 1 + 1 + 1 := by omega
    have m0 : n * 4 % 4 = 0 := by omega
    have m1 : (n * 4 + 1) % 4 = 1 := by omega
    have m2 : (n * 4 + 1 + 1) % 4 = 2 := by omega
    have m3 : (n * 4 + 1 + 1 + 1) % 4 = 3 := by omega
    simp only [madeCells, Array.toList_map, Array.toList_range] at ih ⊢
    rw [e, List.range_succ, List.range_succ, List.range_succ, List.range_succ, List.map_append, List.map_append, List.map_append, List.map_append, ih, List.replicate_succ', devCells_snoc]
    simp [Value.cells, devC, m0, m1, m2, m3]
theorem zip_at {is : List ByteArray} {us : List Bool} {i : Nat} (hi : i < (is.zip us).length) : ∃ (h1 : i < is.length) (h2 : i < us.length), (is.zip us)[i]? = some (is[i], us[i]) := by
  rw [List.length_zip] at hi
  refine ⟨by omega, by omega, ?_⟩
  rw [List.getElem?_eq_getElem (by rw [List.length_zip]; exact hi), List.getElem_zip]

/-- The law's answer. -/
def LawPost (w : World) (e : Ending) (w' : World) : Prop := e = .returned (.bool true) ∧ Below w.heap.size w w'

set_option maxRecDepth 1000000 in
set_option maxHeartbeats 8000000 in
theorem law (cpu mem rc rm rg : Int) (across : Bool) (ai au : Option Addr) (ci cu : Nat) (is : List ByteArray) (us : List Bool) (w : World) (hI : RowAt w ai (is.map Value.string)) (hU : RowAt w au (us.map Value.bool)) (hl : is.length ≤ 9223372036854775807) (hlu : us.length ≤ 9223372036854775807) (hsz : ∀ s ∈ is, s.size ≤ 9223372036854775807)
    (hc1 : cpu ≤ 9223372036854775807) (hm1 : mem ≤ 9223372036854775807) :
    Calls Tryz.prog 4 #[.int .i64 cpu, .int .i64 mem, .slice ai is.length ci, .slice au us.length cu, .int .i64 rc, .int .i64 rm, .int .i64 rg, .bool across] w (LawPost w) := by
  have HI : Hid (RowAt w ai (is.map Value.string)) := hI
  have HU : Hid (RowAt w au (us.map Value.bool)) := hU
  have HSZ : Hid (∀ s ∈ is, s.size ≤ 9223372036854775807) := hsz
  clear hI hU hsz
  go_enter Tryz.func4, Tryz.ntmps4
  go_wp2_with fail
  refine (zzBytes cpu mem rc rm rg across ai au ci cu is us w HI.out hl hlu HSZ.out).mono ?_
  rintro e w' ⟨⟨bv, rfl, hbv⟩, rfl⟩
  have HBV : Hid _ := hbv
  clear hbv
  cases bv
  · go_wp2_with fail
    go_ret
    exact ⟨rfl, Below.refl _ _⟩
  by_cases h1 : 1024 < is.length
  · have d1 : decide ((1024 : Int) < ((is.length : Nat) : Int)) = true := by simp; omega
    go_wp2_with fail
    go_ret
    exact ⟨rfl, Below.refl _ _⟩
  have d1 : decide ((1024 : Int) < ((is.length : Nat) : Int)) = false := by simp; omega
  by_cases h2 : 1024 < us.length
  · have d2 : decide ((1024 : Int) < ((us.length : Nat) : Int)) = true := by simp; omega
    go_wp2_with fail
    go_ret
    exact ⟨rfl, Below.refl _ _⟩
  have d2 : decide ((1024 : Int) < ((us.length : Nat) : Int)) = false := by simp; omega
  go_wp2_with fail
  go_loop [17, 18] (fun sv iv => ∃ (j s : Nat), j ≤ is.length ∧ iv = .int .i64 j ∧ sv = .int .i64 s ∧ s ≤ 1048576) (fun _ iv => is.length - (intOf iv).toNat)
  case atStart => exact ⟨0, 16 * is.length + us.length, Nat.zero_le _, rfl, by go_num, by omega⟩
  case round =>
    obtain ⟨j, s, hj, rfl, rfl, hs⟩ := hrel
    by_cases hjl : j < is.length
    · obtain ⟨g, off, ha, hc⟩ := row_str HI.out j hjl
      cases ha
      have hz := HBV.out (by first | trivial | rfl) j is[j] (List.getElem?_eq_getElem hjl)
      generalize is[j] = x at *
      by_cases h3 : 1048576 < s + x.size
      · have d3' : decide ((1048576 : Int) < (s : Int) + (x.size : Int)) = true := by simp; omega
        go_wp2_with fail
        go_ret
        exact ⟨rfl, Below.refl _ _⟩
      · have d3' : decide ((1048576 : Int) < (s : Int) + (x.size : Int)) = false := by simp; omega
        have hxs : x.size ≤ 1048576 := by omega
        go_wp2_with fail
        go_round
        case rel => exact ⟨j + 1, s + x.size, by omega, by go_num, by go_num, by omega⟩
        case measure => simp [intOf]; omega
    · obtain rfl : j = is.length := by omega
      clear hjl hj hs
      by_cases bcpu : cpu < 0
      · have dc0 : decide (cpu < 0) = true := by simp [bcpu]
        go_wp2_with fail
        go_ret
        exact ⟨rfl, Below.refl _ _⟩
      by_cases bmem : mem < 0
      · have dm0 : decide (mem < 0) = true := by simp [bmem]
        have dc0 : decide (cpu < 0) = false := by simp; omega
        go_wp2_with fail
        go_ret
        exact ⟨rfl, Below.refl _ _⟩
      by_cases brc : rc < 0
      · have drc : decide (rc < 0) = true := by simp [brc]
        have dc0 : decide (cpu < 0) = false := by simp; omega
        have dm0 : decide (mem < 0) = false := by simp; omega
        go_wp2_with fail
        go_ret
        exact ⟨rfl, Below.refl _ _⟩
      by_cases brm : rm < 0
      · have drm : decide (rm < 0) = true := by simp [brm]
        have dc0 : decide (cpu < 0) = false := by simp; omega
        have dm0 : decide (mem < 0) = false := by simp; omega
        have drc : decide (rc < 0) = false := by simp; omega
        go_wp2_with fail
        go_ret
        exact ⟨rfl, Below.refl _ _⟩
      by_cases brg : rg < 0
      · have drg : decide (rg < 0) = true := by simp [brg]
        have dc0 : decide (cpu < 0) = false := by simp; omega
        have dm0 : decide (mem < 0) = false := by simp; omega
        have drc : decide (rc < 0) = false := by simp; omega
        have drm : decide (rm < 0) = false := by simp; omega
        go_wp2_with fail
        go_ret
        exact ⟨rfl, Below.refl _ _⟩
      by_cases brG : 65536 < rg
      · have drG : decide (65536 < rg) = true := by simp [brG]
        have dc0 : decide (cpu < 0) = false := by simp; omega
        have dm0 : decide (mem < 0) = false := by simp; omega
        have drc : decide (rc < 0) = false := by simp; omega
        have drm : decide (rm < 0) = false := by simp; omega
        have drg : decide (rg < 0) = false := by simp; omega
        go_wp2_with fail
        go_ret
        exact ⟨rfl, Below.refl _ _⟩
      have dc0 : decide (cpu < 0) = false := by simp; omega
      have dm0 : decide (mem < 0) = false := by simp; omega
      have drc : decide (rc < 0) = false := by simp; omega
      have drm : decide (rm < 0) = false := by simp; omega
      have drg : decide (rg < 0) = false := by simp; omega
      have drG : decide (65536 < rg) = false := by simp; omega
      obtain ⟨k, rfl⟩ := Int.eq_ofNat_of_zero_le (show 0 ≤ rg by omega)
      have hk2 : k ≤ 65536 := by omega
      have HDL : Hid ((is.zip us).length = min is.length us.length) := List.length_zip
      go_upto_if 99 with fail
      go_cut [19] from 96 to 101 (fun v wx => ∃ n : Nat, v = .int .i64 n ∧ Hid (n = (is.zip us).length) ∧ Hid (w = wx))
      case first =>
        by_cases hlt : us.length < is.length
        · have dl : decide (us.length < is.length) = true := by simp [hlt]
          have el : (is.zip us).length = us.length := by rw [HDL.out]; omega
          go_wp2_with fail
          go_meet
          first | exact ⟨_, rfl, el.symm, rfl⟩ | ((repeat apply Exists.intro); exact ⟨⟨_, rfl, el.symm, rfl⟩, rfl⟩)
        · have dl : decide (us.length < is.length) = false := by simp; omega
          have el : (is.zip us).length = is.length := by rw [HDL.out]; omega
          go_wp2_with fail
          go_meet
          first | exact ⟨_, rfl, el.symm, rfl⟩ | ((repeat apply Exists.intro); exact ⟨⟨_, rfl, el.symm, rfl⟩, rfl⟩)
      case rest =>
      obtain ⟨n, rfl, hnn, hww⟩ := hcut
      have hww' : w = wc := hww.out
      subst hww'
      obtain ⟨ds, hds⟩ : ∃ ds, ds = is.zip us := ⟨_, rfl⟩
      have HDS : Hid (ds = is.zip us) := hds
      have HN : Hid (n = ds.length) := by show _ = _; rw [hds]; exact hnn.out
      have hdl : n ≤ 1024 := by have h := HDL.out; have h2 := hnn.out; omega
      clear hds hnn hww
      go_upto_if 103 with fail
      obtain ⟨i46, hi46, hz46, hs46, hb46⟩ := info_parts Tryz.info46
      go_cut [20, 21] from 102 to 122 (fun dv iv wx => ∃ da dc, dv = .slice da n dc ∧ Hid (DevsIn wx da dc ds) ∧ Hid (Below w.heap.size w wx))
      case first =>
        by_cases h0 : n = 0
        · subst h0
          have HDV : Hid (DevsIn w none 0 ds) := .inl ⟨List.eq_nil_of_length_eq_zero HN.out.symm, rfl, rfl⟩
          go_wp2_with fail
          go_meet
          first | exact ⟨none, 0, rfl, HDV.out, Below.refl _ _⟩ | ((repeat apply Exists.intro); exact ⟨⟨none, 0, rfl, HDV.out, Below.refl _ _⟩, rfl⟩)
        · have d0 : decide (0 < n) = true := by simp; omega
          go_wp2_with (at_make; go_must (refine wpList_make_full _ rfl _ _ 44 rfl w.heap.size 46 i46 _ 4 Tryz.underlying44 hi46 hz46 hs46 .i64 .i64 _ _ n rfl rfl rfl rfl (by rw [hb46]; omega) (by unfold maxLen; omega) (Nat.le_refl _) ?_); intro w1 hown1 hgrow1)
          have O1 : Hid (w1.ownsRow w.heap.size 46 4 (.slice (some ⟨w.heap.size, 0, none⟩) n n) n (devCells (List.replicate n (⟨#[]⟩, false)))) := by
            show w1.ownsRow _ _ _ _ _ _
            rw [← madeDev]
            exact hown1
          have B1 : Hid (Below w.heap.size w w1) := (Below.refl _ _).grown hgrow1 (Nat.le_refl _) (fun k h => by cases h)
          clear hown1 hgrow1
          go_loopw [21] (fun iv wr => ∃ (j : Nat) (l : List (ByteArray × Bool)), j ≤ n ∧ iv = .int .i64 j ∧ Hid (l.length = n) ∧ Hid (∀ i, i < j → l[i]? = ds[i]?) ∧ wr.ownsRow w.heap.size 46 4 (.slice (some ⟨w.heap.size, 0, none⟩) n n) n (devCells l) ∧ Below w.heap.size w wr) (fun iv _ => n - (intOf iv).toNat)
          case atStart => exact ⟨0, _, Nat.zero_le _, rfl, by show _ = _; simp, fun i hi => by omega, O1.out, B1.out⟩
          case round =>
            clear O1 B1
            obtain ⟨j, l, hj, rfl, hll, hli, hown, hbel⟩ := hrel
            by_cases hjl : j < n
            · obtain ⟨hji, hju, hdj⟩ := zip_at (is := is) (us := us) (i := j) (by rw [← HDS.out, ← HN.out]; exact hjl)
              obtain ⟨gI, oI, ha, hcI⟩ := row_str HI.out j hji
              cases ha
              obtain ⟨gU, oU, ha, hcU⟩ := row_bool HU.out j hju
              cases ha
              have HDJ : Hid (ds[j]? = some (is[j], us[j])) := by have h := HDS.out; show _ = _; rw [h]; exact hdj
              generalize is[j] = nm at *
              generalize us[j] = ub at *
              have rI := cell_regrown ((hbel.cell (cell_lt hcI)).trans hcI)
              have rU := cell_regrown ((hbel.cell (cell_lt hcU)).trans hcU)
              clear hcI hcU hdj
              go_wp2_with fail
              refine wp_region_quiet_list 11 (by kernel_rfl) (by kernel_rfl) (by kernel_rfl) ?_
              simp only [List.take_succ_cons, List.take_zero, List.drop_succ_cons, List.drop_zero]
              repeat (go_big_quiet_step (fail))
              refine wpQuiet_nil ?_
              intro X hbX
              clear rI rU
              have hoX := owns_below hown hbX
              have lX : (devCells l).length = n * 4 := by rw [devCells_length, hll.out]
              have c0 := hoX.cellAt (j * 4) (by omega)
              have c1 := hoX.cellAt (j * 4 + 1) (by omega)
              have c2 := hoX.cellAt (j * 4 + 2) (by omega)
              have c3 := hoX.cellAt (j * 4 + 3) (by omega)
              rw [List.getElem?_eq_getElem (by omega)] at c0 c1 c2 c3
              have f0 := hoX.frozenAt (j * 4)
              have f1 := hoX.frozenAt (j * 4 + 1)
              have f2 := hoX.frozenAt (j * 4 + 2)
              have f3 := hoX.frozenAt (j * 4 + 3)
              have hoN := ((((hoX.stored (j * 4) (.string nm)).1.stored (j * 4 + 1) (.bool ub)).1.stored (j * 4 + 2) (.int .i64 0)).1.stored (j * 4 + 3) (.string ⟨#[]⟩)).1
              rw [devCells_set l j (nm, ub) (by rw [hll.out]; exact hjl)] at hoN
              have HON : Hid _ := hoN
              have HBN : Hid (Below w.heap.size w ((((X.setCell ⟨w.heap.size, j * 4, none⟩ (.string nm)).setCell ⟨w.heap.size, j * 4 + 1, none⟩ (.bool ub)).setCell ⟨w.heap.size, j * 4 + 2, none⟩ (.int .i64 0)).setCell ⟨w.heap.size, j * 4 + 3, none⟩ (.string ⟨#[]⟩))) := by
                show Below _ _ _
                iterate 4 refine RowKit.Below.setCell ?_ (by simp only; omega) _
                exact hbel.trans (hbX.mono hbel.size)
              have HLN : Hid ((l.set j (nm, ub)).length = n) := by show _ = _; rw [List.length_set]; exact hll.out
              have HLI : Hid (∀ i, i < j + 1 → (l.set j (nm, ub))[i]? = ds[i]?) := fun i hi => by
                rcases Nat.lt_or_ge i j with h | h
                · rw [List.getElem?_set_ne (by omega)]; exact hli.out i h
                · obtain rfl : i = j := by omega
                  rw [List.getElem?_set_self (by rw [hll.out]; exact hjl)]; exact HDJ.out.symm
              clear hoN hoX hown
              go_wp2_with fail
              go_roundw
              case rel => first | exact ⟨j + 1, _, by omega, by go_num, HLN.out, HLI.out, HON.out, HBN.out⟩ | ((repeat apply Exists.intro); exact ⟨⟨j + 1, _, by omega, by go_num, HLN.out, HLI.out, HON.out, HBN.out⟩, rfl⟩)
              case measure => simp [intOf]; omega
            · obtain rfl : j = n := by omega
              have HLL : Hid (l = ds) := by
                show _ = _
                apply List.ext_getElem?
                intro i
                rcases Nat.lt_or_ge i j with h | h
                · exact hli.out i h
                · rw [List.getElem?_eq_none (by rw [hll.out]; exact h), List.getElem?_eq_none (by rw [← HN.out]; exact h)]
              have HDV : Hid (DevsIn wr (some ⟨w.heap.size, 0, none⟩) j ds) := by
                refine .inr ⟨w.heap.size, rfl, fun k x hx => ?_⟩
                have h1 := hown
                rw [HLL.out] at h1
                have hkl := (List.getElem?_eq_some_iff.1 hx).1
                rw [devCells_length, ← HN.out] at hkl
                rw [h1.cellAt k hkl]
                exact hx
              have HBB : Hid _ := hbel
              clear hown hbel hli hll HLL
              go_wp2_with fail
              go_meet
              first | exact ⟨_, _, rfl, HDV.out, HBB.out⟩ | ((repeat apply Exists.intro); exact ⟨⟨_, _, rfl, HDV.out, HBB.out⟩, rfl⟩)
      case rest =>
      obtain ⟨da, dc, rfl, HDV, HBW⟩ := hcut
      have NC : Hid ((wc.alloc (.cells #[.string ⟨#[]⟩, .int .i64 cpu, .int .i64 mem, .int .i64 (n : Nat), .string ⟨#[]⟩, .slice da n dc] 48)).heap[wc.heap.size]? = some (.cells #[.string ⟨#[]⟩, .int .i64 cpu, .int .i64 mem, .int .i64 (n : Nat), .string ⟨#[]⟩, .slice da n dc] 48)) := heap_alloc_new wc _
      have hb2 : Below wc.heap.size wc (wc.alloc (.cells #[.string ⟨#[]⟩, .int .i64 cpu, .int .i64 mem, .int .i64 (n : Nat), .string ⟨#[]⟩, .slice da n dc] 48)) := below_alloc1 _ _
      go_wp2_with fail
      generalize hW2 : wc.alloc (.cells #[.string ⟨#[]⟩, .int .i64 cpu, .int .i64 mem, .int .i64 (n : Nat), .string ⟨#[]⟩, .slice da n dc] 48) = W2 at *
      clear hW2
      have HD2 : Hid (DevsIn W2 da dc ds) := HDV.out.cells hb2
      refine (newLedger1 wc.heap.size 1 cpu mem da dc ds W2 (blk_c NC.out (Below.refl _ _) (i := 0) rfl) (blk_c NC.out (Below.refl _ _) (i := 1) rfl) (blk_c NC.out (Below.refl _ _) (i := 2) rfl) (by rw [← HN.out]; exact blk_c NC.out (Below.refl _ _) (i := 3) rfl) (blk_c NC.out (Below.refl _ _) (i := 4) rfl) (by rw [← HN.out]; exact blk_c NC.out (Below.refl _ _) (i := 5) rfl) HD2.out (by have := HN.out; omega) (by omega) hc1 (by omega) hm1).mono ?_
      rintro e W3 ⟨hb3, l, s', m, b, cs, nms, ps, fr, rfl, hl2, hsh, hcs, hNd, hBk, hvs, hSt⟩
      have hbA : Below w.heap.size w W3 := (HBW.out.trans (hb2.mono HBW.out.size)).trans (hb3.mono (Nat.le_trans HBW.out.size hb2.size))
      have HST : Hid (St ds nms ps fr) := hSt
      have hbR : Below W3.heap.size W3 (W3.alloc (.cells #[.int .i64 rc, .int .i64 rm, .int .i64 (k : Nat), .int .i64 0, .int .i64 0, .int .i64 0, .bool false, .string ⟨#[]⟩] 34)) := below_alloc1 _ _
      have HRQ : Hid ((W3.alloc (.cells #[.int .i64 rc, .int .i64 rm, .int .i64 (k : Nat), .int .i64 0, .int .i64 0, .int .i64 0, .bool false, .string ⟨#[]⟩] 34)).heap[W3.heap.size]? = some (.cells #[.int .i64 rc, .int .i64 rm, .int .i64 (k : Nat), .int .i64 0, .int .i64 0, .int .i64 0, .bool false, .string ⟨#[]⟩] 34)) := heap_alloc_new W3 _
      have G1 : Hid _ := (hbR.cell (cell_lt hl2)).trans hl2
      have G2 : Hid _ := (hbR.block _ (heap_lt hsh)).trans hsh
      have G3 : Hid _ := hNd.below hbR
      have G4 : Hid _ := hBk.below hbR
      have G5 : Hid (∃ vg vo vc, (W3.alloc (.cells #[.int .i64 rc, .int .i64 rm, .int .i64 (k : Nat), .int .i64 0, .int .i64 0, .int .i64 0, .bool false, .string ⟨#[]⟩] 34)).cell? ⟨s', 3, none⟩ = some (.slice (some ⟨vg, vo, none⟩) 1 vc) ∧ (W3.alloc (.cells #[.int .i64 rc, .int .i64 rm, .int .i64 (k : Nat), .int .i64 0, .int .i64 0, .int .i64 0, .bool false, .string ⟨#[]⟩] 34)).cell? ⟨vg, vo, none⟩ = some (.int .i64 0)) := by
        obtain ⟨vg, vo, vc, v1, v2⟩ := hvs
        exact ⟨vg, vo, vc, (hbR.cell (cell_lt v1)).trans v1, (hbR.cell (cell_lt v2)).trans v2⟩
      clear hl2 hsh hNd hBk hvs hSt hb2 hb3 NC HD2
      go_wp2_with fail
      generalize hW4 : W3.alloc (.cells #[.int .i64 rc, .int .i64 rm, .int .i64 (k : Nat), .int .i64 0, .int .i64 0, .int .i64 0, .bool false, .string ⟨#[]⟩] 34) = W4 at *
      clear hW4
      have hbB : Below w.heap.size w W4 := hbA.trans (hbR.mono hbA.size)
      have hfrl : fr.length ≤ 65536 := by have h1 := HST.out.len; have h2 := HST.out.few; have := HN.out; omega
      have hpsl : ps.length ≤ 65536 := by have h1 := HST.out.plen; have := HN.out; omega
      refine (zzChoose l s' m b cs cpu mem rc rm k across ps fr W4 G1.out G2.out hcs G3.out G4.out G5.out (by omega) hc1 (by omega) hm1 hk2 hfrl hpsl HST.out.fr).mono ?_
      rintro e W5 ⟨hb5, ⟨hfit, g, cap, L, rfl, hown, hgr⟩ | ⟨hfit, rfl⟩⟩
      · have HFT : Hid _ := hfit
        have HOW : Hid _ := hown
        have HGR : Hid _ := hgr
        clear hfit hown hgr
        unfold grantV
        go_upto_region 27 with fail
        have hb6 : Below W5.heap.size W5 (W5.alloc (.cells #[.int .i64 0, .slice (some ⟨g, 0, none⟩) k cap, .int .i64 rc, .int .i64 rm, .int .i64 (k : Nat), .int .i64 0, .int .i64 0, .int .i64 0, .bool false, .string ⟨#[]⟩] 36)) := below_alloc1 _ _
        have HGB : Hid ((W5.alloc (.cells #[.int .i64 0, .slice (some ⟨g, 0, none⟩) k cap, .int .i64 rc, .int .i64 rm, .int .i64 (k : Nat), .int .i64 0, .int .i64 0, .int .i64 0, .bool false, .string ⟨#[]⟩] 36)).heap[W5.heap.size]? = some (.cells #[.int .i64 0, .slice (some ⟨g, 0, none⟩) k cap, .int .i64 rc, .int .i64 rm, .int .i64 (k : Nat), .int .i64 0, .int .i64 0, .int .i64 0, .bool false, .string ⟨#[]⟩] 36)) := heap_alloc_new W5 _
        have HBW6 : Hid (Below w.heap.size w (W5.alloc (.cells #[.int .i64 0, .slice (some ⟨g, 0, none⟩) k cap, .int .i64 rc, .int .i64 rm, .int .i64 (k : Nat), .int .i64 0, .int .i64 0, .int .i64 0, .bool false, .string ⟨#[]⟩] 36))) := (hbB.trans (hb5.mono hbB.size)).trans (hb6.mono (Nat.le_trans hbB.size hb5.size))
        have HRB : Hid ((W5.alloc (.cells #[.int .i64 0, .slice (some ⟨g, 0, none⟩) k cap, .int .i64 rc, .int .i64 rm, .int .i64 (k : Nat), .int .i64 0, .int .i64 0, .int .i64 0, .bool false, .string ⟨#[]⟩] 36)).heap[W3.heap.size]? = some (.cells #[.int .i64 rc, .int .i64 rm, .int .i64 (k : Nat), .int .i64 0, .int .i64 0, .int .i64 0, .bool false, .string ⟨#[]⟩] 34)) := alloc_blk ((hb5.block _ (heap_lt HRQ.out)).trans HRQ.out) _
        have HOW6 : Hid _ := owns_below HOW.out hb6
        generalize hW6 : W5.alloc (.cells #[.int .i64 0, .slice (some ⟨g, 0, none⟩) k cap, .int .i64 rc, .int .i64 rm, .int .i64 (k : Nat), .int .i64 0, .int .i64 0, .int .i64 0, .bool false, .string ⟨#[]⟩] 36) = W6 at *
        clear hW6 hb6
        go_wp2_with fail
        go_loopw [27, 28] (fun rv iv wr => ∃ (i : Nat) (r : Bool), i ≤ n ∧ iv = .int .i64 i ∧ rv = .bool r ∧ Hid (r = true ↔ (k = 0 ∨ ∃ i', i' < i ∧ RoomAt ds across k i')) ∧ Below W6.heap.size W6 wr) (fun _ iv _ => n - (intOf iv).toNat)
        case atStart =>
          refine ⟨0, _, Nat.zero_le _, rfl, rfl, ?_, Below.refl _ _⟩
          show _ ↔ _
          constructor
          · intro h
            left
            simpa using h
          · rintro (h | ⟨i', h, _⟩)
            · simp [h]
            · omega
        case round =>
          obtain ⟨i, r, hi, rfl, rfl, HR, hbel⟩ := hrel
          have hbW : Below w.heap.size w wr := HBW6.out.trans (hbel.mono HBW6.out.size)
          go_upto_region 29 with fail
          go_cut [150] from 144 to 186 (fun v wx => ∃ bb : Bool, v = .bool bb ∧ Hid (bb = (decide (i < n) && !r)) ∧ Hid (wr = wx))
          case first =>
            by_cases hin : i < n
            · cases r
              · have hbb : Hid (true = (decide (i < n) && !false)) := by show _ = _; simp [hin]
                go_wp2_with fail
                go_meet
                first | exact ⟨true, rfl, hbb.out, rfl⟩ | ((repeat apply Exists.intro); exact ⟨⟨true, rfl, hbb.out, rfl⟩, rfl⟩)
              · have hbb : Hid (false = (decide (i < n) && !true)) := by show _ = _; simp
                go_wp2_with fail
                go_meet
                first | exact ⟨false, rfl, hbb.out, rfl⟩ | ((repeat apply Exists.intro); exact ⟨⟨false, rfl, hbb.out, rfl⟩, rfl⟩)
            · have hbb : Hid (false = (decide (i < n) && !r)) := by show _ = _; simp [hin]
              have din : decide (i < n) = false := by simp; omega
              go_wp2_with fail
              go_meet
              first | exact ⟨false, rfl, hbb.out, rfl⟩ | ((repeat apply Exists.intro); exact ⟨⟨false, rfl, hbb.out, rfl⟩, rfl⟩)
          case rest =>
          obtain ⟨bb, rfl, hbb, hwx⟩ := hcut
          have hwx' : wr = wc := hwx.out
          subst hwx'
          cases bb with
          | false =>
            have HEND : Hid (¬ (i < n ∧ r = false)) := fun h => by have := hbb.out; simp [h.1, h.2] at this
            clear hbb hwx
            have HRR : Hid (r = true ↔ (k = 0 ∨ ∃ i, RoomAt ds across k i)) := by
              show _ ↔ _
              constructor
              · intro h
                rcases HR.out.1 h with h | ⟨i', _, h⟩
                · exact .inl h
                · exact .inr ⟨i', h⟩
              · intro h
                rcases h with h | ⟨i0, h⟩
                · exact HR.out.2 (.inl h)
                · by_cases hi0 : i0 < i
                  · exact HR.out.2 (.inr ⟨i0, hi0, h⟩)
                  · have hil : i0 < n := by
                      obtain ⟨d, h1, _⟩ := h
                      have := (List.getElem?_eq_some_iff.1 h1).1
                      have := HN.out
                      omega
                    cases hr : r with
                    | true => rfl
                    | false => exact absurd ⟨by omega, hr⟩ HEND.out
            have hfits := (fits_iff HST.out cpu mem rc rm across k).1 HFT.out
            have hr : r = true := HRR.out.2 hfits.2.2
            subst hr
            have dcpu : decide (rc ≤ cpu) = true := by simp; omega
            have dmem : decide (rm ≤ mem) = true := by simp; omega
            clear hfits
            have HGr : Hid _ := (hbel.block _ (heap_lt HGB.out)).trans HGB.out
            have HRr : Hid _ := (hbel.block _ (heap_lt HRB.out)).trans HRB.out
            have c0 := blk_c HGr.out (Below.refl _ _) (i := 0) rfl
            have c1 := blk_c HGr.out (Below.refl _ _) (i := 1) rfl
            have c2 := blk_c HGr.out (Below.refl _ _) (i := 2) rfl
            have c3 := blk_c HGr.out (Below.refl _ _) (i := 3) rfl
            have c4 := blk_c HGr.out (Below.refl _ _) (i := 4) rfl
            have c5 := blk_c HGr.out (Below.refl _ _) (i := 5) rfl
            have c6 := blk_c HGr.out (Below.refl _ _) (i := 6) rfl
            have c7 := blk_c HGr.out (Below.refl _ _) (i := 7) rfl
            have c8 := blk_c HGr.out (Below.refl _ _) (i := 8) rfl
            have c9 := blk_c HGr.out (Below.refl _ _) (i := 9) rfl
            have q0 := blk_c HRr.out (Below.refl _ _) (i := 0) rfl
            have q1 := blk_c HRr.out (Below.refl _ _) (i := 1) rfl
            have q2 := blk_c HRr.out (Below.refl _ _) (i := 2) rfl
            have q3 := blk_c HRr.out (Below.refl _ _) (i := 3) rfl
            have q4 := blk_c HRr.out (Below.refl _ _) (i := 4) rfl
            have q5 := blk_c HRr.out (Below.refl _ _) (i := 5) rfl
            have q6 := blk_c HRr.out (Below.refl _ _) (i := 6) rfl
            have q7 := blk_c HRr.out (Below.refl _ _) (i := 7) rfl
            have q34 := neq34_same rc rm k
            have dkk : ((k : Int) != (k : Int)) = false := by simp
            go_wp2_with fail
            clear c0 c1 c2 c3 c4 c5 c6 c7 c8 c9 q0 q1 q2 q3 q4 q5 q6 q7
            go_loopw [31] (fun iv wq => ∃ kk : Nat, kk ≤ k ∧ iv = .int .i64 kk ∧ Below W6.heap.size W6 wq) (fun iv _ => k - (intOf iv).toNat)
            case atStart => exact ⟨0, Nat.zero_le _, rfl, hbel⟩
            case round =>
              clear hbel hbW
              obtain ⟨kk, hkk, rfl, hbq⟩ := hrel
              have hbQ : Below w.heap.size w wr := HBW6.out.trans (hbq.mono HBW6.out.size)
              have HGq : Hid _ := (hbq.block _ (heap_lt HGB.out)).trans HGB.out
              have g1 := blk_c HGq.out (Below.refl _ _) (i := 1) rfl
              by_cases hlt : kk < k
              · have hLl : L.length = k := HGR.out.1
                have hOq := owns_below HOW6.out hbq
                have ck := own_cell hOq kk (by omega)
                have hLk : L[kk]? = some L[kk] := List.getElem?_eq_getElem (by omega)
                rw [hLk, Option.getD_some] at ck
                have HLM : Hid (L[kk] ∈ L) := List.getElem_mem _
                obtain ⟨hidl, p, hpp, hph⟩ := HGR.out.2.1.2 _ HLM.out
                have hidn : L[kk] < n := by have := HST.out.plen; have := HN.out; omega
                obtain ⟨hii, hiu, hdi⟩ := zip_at (is := is) (us := us) (i := L[kk]) (by rw [← HDS.out, ← HN.out]; exact hidn)
                have hdi' : ds[L[kk]]? = some (is[L[kk]], us[L[kk]]) := by have h := HDS.out; rw [h]; exact hdi
                have hus : us[L[kk]] = false := by
                  obtain ⟨p', h1, h2, _⟩ := HST.out.at' _ _ hdi'
                  rw [hpp] at h1
                  cases h1
                  rw [hph] at h2
                  simp at h2
                  exact h2
                obtain ⟨b2, o2, e2, cu'⟩ := row_bool (HU.out.below hbQ) L[kk] hiu
                cases e2
                rw [hus] at cu'
                obtain ⟨b1, o1, e1, ci'⟩ := row_str (HI.out.below hbQ) L[kk] hii
                cases e1
                have d0 : decide (((L[kk] : Nat) : Int) < 0) = false := by simp
                have dn : decide (n ≤ L[kk]) = false := by simp; omega
                have HSAME : Hid (across = false → ∀ (h0 : L[0]?.getD 0 < is.length), is[L[0]?.getD 0] = is[L[kk]]) := fun hac h0 => by
                  obtain ⟨rr, hone⟩ := HGR.out.2.2 (by rw [hac]; rfl)
                  have hL0 : L[0]? = some L[0] := List.getElem?_eq_getElem (by omega)
                  obtain ⟨pa, ha1, ha2⟩ := hone L[0] (List.getElem_mem _)
                  obtain ⟨pb, hb1, hb2⟩ := hone L[kk] HLM.out
                  have hd0n : L[0] < n := by have := (HGR.out.2.1.2 L[0] (List.getElem_mem _)).1; have := HST.out.plen; have := HN.out; omega
                  obtain ⟨h1i, h1u, h1d⟩ := zip_at (is := is) (us := us) (i := L[0]) (by rw [← HDS.out, ← HN.out]; exact hd0n)
                  have h1d' : ds[L[0]]? = some (is[L[0]], us[L[0]]) := by have h := HDS.out; rw [h]; exact h1d
                  have := (HST.out.same h1d' hdi' ha1 hb1).1 (by omega)
                  simpa [hL0] using this
                have c00 := own_cell hOq 0 (by omega)
                have HL0n : Hid (L[0]?.getD 0 < n) := by
                  have hL0 : L[0]? = some L[0] := List.getElem?_eq_getElem (by omega)
                  rw [hL0]
                  have := (HGR.out.2.1.2 L[0] (List.getElem_mem _)).1
                  have := HST.out.plen
                  have := HN.out
                  show _ < _
                  simp only [Option.getD_some]
                  omega
                have HC0 : Hid (∀ (h0 : L[0]?.getD 0 < is.length), wr.cell? ⟨b1, o1 + L[0]?.getD 0, none⟩ = some (.string is[L[0]?.getD 0])) := fun h0 => by
                  obtain ⟨b3, o3, e3, c3⟩ := row_str (HI.out.below hbQ) (L[0]?.getD 0) h0
                  cases e3
                  exact c3
                have hi0 : L[0]?.getD 0 < is.length := by
                  have h1 := HL0n.out
                  have h2 := HDS.out
                  have h3 := HN.out
                  rw [h2, List.length_zip] at h3
                  omega
                have c0s := HC0.out hi0
                have HPREV : Hid (∀ q, kk = q + 1 → L[q]?.getD 0 < L[kk]) := fun q hq => by
                  subst hq
                  rw [List.getElem?_eq_getElem (by omega), Option.getD_some]
                  exact (List.pairwise_iff_getElem.1 HGR.out.2.1.1) q (q + 1) (by omega) (by omega) (by omega)
                generalize hid : L[kk] = id at *
                generalize hnm : is[id] = nm at *
                generalize hz0 : L[0]?.getD 0 = z0 at *
                cases kk with
                | zero =>
                  cases across with
                  | true =>
                    clear HSAME HC0 HL0n c0s c00
                    go_wp2_with fail
                    go_quiet (fail)
                    go_wp2_with fail
                    go_roundw
                    case rel => first | exact ⟨0 + 1, by omega, by go_num, below_drewN hbq _⟩ | ((repeat apply Exists.intro); exact ⟨⟨0 + 1, by omega, by go_num, below_drewN hbq _⟩, rfl⟩)
                    case measure => simp [intOf]; omega
                  | false =>
                    clear HSAME HC0 HL0n c0s c00
                    go_wp2_with fail
                    go_quiet (fail)
                    go_wp2_with fail
                    go_roundw
                    case rel => first | exact ⟨0 + 1, by omega, by go_num, below_drewN hbq _⟩ | ((repeat apply Exists.intro); exact ⟨⟨0 + 1, by omega, by go_num, below_drewN hbq _⟩, rfl⟩)
                    case measure => simp [intOf]; omega
                | succ q =>
                  have cq := own_cell hOq q (by omega)
                  have hprev := HPREV.out q rfl
                  generalize hpq : L[q]?.getD 0 = pq at *
                  have dpq : decide (id ≤ pq) = false := by simp; omega
                  cases across with
                  | true =>
                    clear HSAME HC0 HL0n c0s c00
                    go_wp2_with fail
                    go_quiet (fail)
                    go_wp2_with fail
                    go_roundw
                    case rel => first | exact ⟨q + 1 + 1, by omega, by go_num, below_drewN hbq _⟩ | ((repeat apply Exists.intro); exact ⟨⟨q + 1 + 1, by omega, by go_num, below_drewN hbq _⟩, rfl⟩)
                    case measure => simp [intOf]; omega
                  | false =>
                    have hs := HSAME.out rfl hi0
                    rw [hs] at c0s
                    go_wp2_with fail
                    go_quiet (fail)
                    go_wp2_with fail
                    go_roundw
                    case rel => first | exact ⟨q + 1 + 1, by omega, by go_num, below_drewN hbq _⟩ | ((repeat apply Exists.intro); exact ⟨⟨q + 1 + 1, by omega, by go_num, below_drewN hbq _⟩, rfl⟩)
                    case measure => simp [intOf]; omega
              · obtain rfl : kk = k := by omega
                go_wp2_with fail
                go_ret
                exact ⟨rfl, hbQ⟩
          | true =>
            have hin : i < n := by have := hbb.out; simp at this; exact this.1
            have hrf : r = false := by have := hbb.out; simp at this; exact this.2
            subst hrf
            clear hbb hwx
            obtain ⟨hii, hiu, hdi⟩ := zip_at (is := is) (us := us) (i := i) (by rw [← HDS.out, ← HN.out]; exact hin)
            obtain ⟨gI, oI, ha, hcI⟩ := row_str (HI.out.below hbW) i hii
            cases ha
            obtain ⟨gU, oU, ha, hcU⟩ := row_bool (HU.out.below hbW) i hiu
            cases ha
            have HDI : Hid (ds[i]? = some (is[i], us[i])) := by have h := HDS.out; show _ = _; rw [h]; exact hdi
            have HNI : Hid (w.cell? ⟨gI, oI + i, none⟩ = some (.string is[i])) := by
              obtain ⟨b1, o1, e1, h1⟩ := row_str HI.out i hii
              cases e1
              exact h1
            clear hdi hcI
            generalize is[i] = nm at *
            cases hui : us[i] with
            | true =>
              rw [hui] at hcU
              have HRN : Hid (false = true ↔ (k = 0 ∨ ∃ i', i' < i + 1 ∧ RoomAt ds across k i')) := by
                show _ ↔ _
                constructor
                · intro h; cases h
                · rintro (h | ⟨i', h, hro⟩)
                  · exact HR.out.2 (.inl h)
                  · rcases Nat.lt_or_ge i' i with h' | h'
                    · exact HR.out.2 (.inr ⟨i', h', hro⟩)
                    · obtain rfl : i' = i := by omega
                      obtain ⟨d, h1, h2, _⟩ := hro
                      have h3 := HDI.out
                      rw [h1] at h3
                      cases h3
                      simp only at h2
                      rw [hui] at h2
                      cases h2
              go_wp2_with fail
              go_roundw
              case rel => first | exact ⟨i + 1, false, by omega, by go_num, rfl, HRN.out, hbel⟩ | ((repeat apply Exists.intro); exact ⟨⟨i + 1, false, by omega, by go_num, rfl, HRN.out, hbel⟩, rfl⟩)
              case measure => simp [intOf]; omega
            | false =>
              rw [hui] at hcU
              have HUI : Hid (us[i] = false) := hui
              clear hui
              go_wp2_with fail
              go_loopw [29, 30] (fun cv jv wq => ∃ (j c : Nat), i ≤ j ∧ j ≤ n ∧ jv = .int .i64 j ∧ cv = .int .i64 c ∧ Hid (c = ((ds.take j).drop i).countP (okD across nm)) ∧ c ≤ j ∧ Below W6.heap.size W6 wq) (fun _ jv _ => n - (intOf jv).toNat)
              case atStart => exact ⟨i, 0, Nat.le_refl _, hi, rfl, rfl, by show _ = _; simp, Nat.zero_le _, hbel⟩
              case round =>
                clear hbel hbW
                obtain ⟨j, c, hij, hj, rfl, rfl, HC, hcj, hbq⟩ := hrel
                have hbQ : Below w.heap.size w wr := HBW6.out.trans (hbq.mono HBW6.out.size)
                by_cases hjn : j < n
                · obtain ⟨hji, hju, hdj⟩ := zip_at (is := is) (us := us) (i := j) (by rw [← HDS.out, ← HN.out]; exact hjn)
                  obtain ⟨b1, o1, e1, c1⟩ := row_str (HI.out.below hbQ) j hji
                  cases e1
                  obtain ⟨b2, o2, e2, c2⟩ := row_bool (HU.out.below hbQ) j hju
                  cases e2
                  have cn : wr.cell? ⟨gI, oI + i, none⟩ = some (.string nm) := (hbQ.cell (cell_lt HNI.out)).trans HNI.out
                  have HDJ : Hid (ds[j]? = some (is[j], us[j])) := by have h := HDS.out; show _ = _; rw [h]; exact hdj
                  have HTK : Hid ((ds.take (j + 1)).drop i = (ds.take j).drop i ++ [(is[j], us[j])]) := by
                    have hjd : j < ds.length := by rw [← HN.out]; exact hjn
                    show _ = _
                    rw [List.take_succ_eq_append_getElem hjd, List.drop_append_of_le_length (by rw [List.length_take]; omega)]
                    have h := HDJ.out
                    rw [List.getElem?_eq_getElem hjd] at h
                    rw [Option.some.inj h]
                  clear hdj
                  generalize is[j] = nj at *
                  cases huj : us[j] with
                  | true =>
                    rw [huj] at c2
                    have HCN : Hid (c = ((ds.take (j + 1)).drop i).countP (okD across nm)) := by show _ = _; rw [HTK.out, List.countP_append, ← HC.out, huj]; simp [okD]
                    clear huj
                    go_wp2_with fail
                    go_quiet (fail)
                    go_wp2_with fail
                    go_roundw
                    case rel => first | exact ⟨j + 1, c, by omega, by omega, by go_num, rfl, HCN.out, by omega, below_drewN hbq _⟩ | ((repeat apply Exists.intro); exact ⟨⟨j + 1, c, by omega, by omega, by go_num, rfl, HCN.out, by omega, below_drewN hbq _⟩, rfl⟩)
                    case measure => simp [intOf]; omega
                  | false =>
                    rw [huj] at c2
                    by_cases hok : across = true ∨ nj = nm
                    · have HCN : Hid (c + 1 = ((ds.take (j + 1)).drop i).countP (okD across nm)) := by
                        show _ = _
                        rw [HTK.out, List.countP_append, ← HC.out, huj]
                        rcases hok with h | h <;> simp [okD, h]
                      clear huj
                      cases across with
                      | true =>
                        go_wp2_with fail
                        go_quiet (fail)
                        go_wp2_with fail
                        go_roundw
                        case rel => first | exact ⟨j + 1, c + 1, by omega, by omega, by go_num, by go_num, HCN.out, by omega, below_drewN hbq _⟩ | ((repeat apply Exists.intro); exact ⟨⟨j + 1, c + 1, by omega, by omega, by go_num, by go_num, HCN.out, by omega, below_drewN hbq _⟩, rfl⟩)
                        case measure => simp [intOf]; omega
                      | false =>
                        have hnm : nj = nm := by simpa using hok
                        subst hnm
                        go_wp2_with fail
                        go_quiet (fail)
                        go_wp2_with fail
                        go_roundw
                        case rel => first | exact ⟨j + 1, c + 1, by omega, by omega, by go_num, by go_num, HCN.out, by omega, below_drewN hbq _⟩ | ((repeat apply Exists.intro); exact ⟨⟨j + 1, c + 1, by omega, by omega, by go_num, by go_num, HCN.out, by omega, below_drewN hbq _⟩, rfl⟩)
                        case measure => simp [intOf]; omega
                    · obtain ⟨hac, hnm⟩ := not_or.1 hok
                      have hac' : across = false := by simpa using hac
                      have HCN : Hid (c = ((ds.take (j + 1)).drop i).countP (okD across nm)) := by
                        show _ = _
                        rw [HTK.out, List.countP_append, ← HC.out, huj, hac']
                        simp [okD, hnm]
                      clear huj hok hac
                      subst hac'
                      have e1 : (nj == nm) = false := by rw [beq_bytes]; simp [hnm]
                      have e2 : decide (nj = nm) = false := by simp [hnm]
                      have e3 : (nj.toList == nm.toList) = false := by rw [bytes_beq_list]; exact e1
                      go_wp2_with fail
                      go_quiet (fail)
                      go_wp2_with fail
                      go_roundw
                      case rel => first | exact ⟨j + 1, c, by omega, by omega, by go_num, rfl, HCN.out, by omega, below_drewN hbq _⟩ | ((repeat apply Exists.intro); exact ⟨⟨j + 1, c, by omega, by omega, by go_num, rfl, HCN.out, by omega, below_drewN hbq _⟩, rfl⟩)
                      case measure => simp [intOf]; omega
                · obtain rfl : j = n := by omega
                  have HCD : Hid (c = (ds.drop i).countP (okD across nm)) := by have h := HC.out; rw [List.take_of_length_le (by rw [HN.out]; exact Nat.le_refl _)] at h; exact h
                  by_cases hck : k ≤ c
                  · have dck : decide (k ≤ c) = true := by simp [hck]
                    have HRN : Hid (true = true ↔ (k = 0 ∨ ∃ i', i' < i + 1 ∧ RoomAt ds across k i')) := ⟨fun _ => .inr ⟨i, by omega, (nm, us[i]), HDI.out, HUI.out, by rw [← HCD.out]; exact hck⟩, fun _ => rfl⟩
                    go_wp2_with fail
                    go_roundw
                    case rel => first | exact ⟨i + 1, true, by omega, by go_num, rfl, HRN.out, hbq⟩ | ((repeat apply Exists.intro); exact ⟨⟨i + 1, true, by omega, by go_num, rfl, HRN.out, hbq⟩, rfl⟩)
                    case measure => simp [intOf]; omega
                  · have dck : decide (k ≤ c) = false := by simp; omega
                    have HRN : Hid (false = true ↔ (k = 0 ∨ ∃ i', i' < i + 1 ∧ RoomAt ds across k i')) := by
                      show _ ↔ _
                      constructor
                      · intro h; cases h
                      · rintro (h | ⟨i', h, hro⟩)
                        · exact HR.out.2 (.inl h)
                        · rcases Nat.lt_or_ge i' i with h' | h'
                          · exact HR.out.2 (.inr ⟨i', h', hro⟩)
                          · obtain rfl : i' = i := by omega
                            obtain ⟨d, h1, h2, h3⟩ := hro
                            have h4 := HDI.out
                            rw [h1] at h4
                            cases h4
                            simp only at h3
                            rw [← HCD.out] at h3
                            exact absurd h3 hck
                    go_wp2_with fail
                    go_roundw
                    case rel => first | exact ⟨i + 1, false, by omega, by go_num, rfl, HRN.out, hbq⟩ | ((repeat apply Exists.intro); exact ⟨⟨i + 1, false, by omega, by go_num, rfl, HRN.out, hbq⟩, rfl⟩)
                    case measure => simp [intOf]; omega
      · have HFT : Hid _ := hfit
        clear hfit
        unfold grantV
        go_upto_region 27 with fail
        have hb6 : Below W5.heap.size W5 (W5.alloc (.cells #[.int .i64 0, .slice none 0 0, .int .i64 0, .int .i64 0, .int .i64 0, .int .i64 0, .int .i64 0, .int .i64 0, .bool false, .string ⟨#[]⟩] 36)) := below_alloc1 _ _
        have HGB : Hid ((W5.alloc (.cells #[.int .i64 0, .slice none 0 0, .int .i64 0, .int .i64 0, .int .i64 0, .int .i64 0, .int .i64 0, .int .i64 0, .bool false, .string ⟨#[]⟩] 36)).heap[W5.heap.size]? = some (.cells #[.int .i64 0, .slice none 0 0, .int .i64 0, .int .i64 0, .int .i64 0, .int .i64 0, .int .i64 0, .int .i64 0, .bool false, .string ⟨#[]⟩] 36)) := heap_alloc_new W5 _
        have HBW6 : Hid (Below w.heap.size w (W5.alloc (.cells #[.int .i64 0, .slice none 0 0, .int .i64 0, .int .i64 0, .int .i64 0, .int .i64 0, .int .i64 0, .int .i64 0, .bool false, .string ⟨#[]⟩] 36))) := (hbB.trans (hb5.mono hbB.size)).trans (hb6.mono (Nat.le_trans hbB.size hb5.size))
        have HRB : Hid ((W5.alloc (.cells #[.int .i64 0, .slice none 0 0, .int .i64 0, .int .i64 0, .int .i64 0, .int .i64 0, .int .i64 0, .int .i64 0, .bool false, .string ⟨#[]⟩] 36)).heap[W3.heap.size]? = some (.cells #[.int .i64 rc, .int .i64 rm, .int .i64 (k : Nat), .int .i64 0, .int .i64 0, .int .i64 0, .bool false, .string ⟨#[]⟩] 34)) := alloc_blk ((hb5.block _ (heap_lt HRQ.out)).trans HRQ.out) _

        generalize hW6 : W5.alloc (.cells #[.int .i64 0, .slice none 0 0, .int .i64 0, .int .i64 0, .int .i64 0, .int .i64 0, .int .i64 0, .int .i64 0, .bool false, .string ⟨#[]⟩] 36) = W6 at *
        clear hW6 hb6
        go_wp2_with fail
        go_loopw [27, 28] (fun rv iv wr => ∃ (i : Nat) (r : Bool), i ≤ n ∧ iv = .int .i64 i ∧ rv = .bool r ∧ Hid (r = true ↔ (k = 0 ∨ ∃ i', i' < i ∧ RoomAt ds across k i')) ∧ Below W6.heap.size W6 wr) (fun _ iv _ => n - (intOf iv).toNat)
        case atStart =>
          refine ⟨0, _, Nat.zero_le _, rfl, rfl, ?_, Below.refl _ _⟩
          show _ ↔ _
          constructor
          · intro h
            left
            simpa using h
          · rintro (h | ⟨i', h, _⟩)
            · simp [h]
            · omega
        case round =>
          obtain ⟨i, r, hi, rfl, rfl, HR, hbel⟩ := hrel
          have hbW : Below w.heap.size w wr := HBW6.out.trans (hbel.mono HBW6.out.size)
          go_upto_region 29 with fail
          go_cut [150] from 144 to 186 (fun v wx => ∃ bb : Bool, v = .bool bb ∧ Hid (bb = (decide (i < n) && !r)) ∧ Hid (wr = wx))
          case first =>
            by_cases hin : i < n
            · cases r
              · have hbb : Hid (true = (decide (i < n) && !false)) := by show _ = _; simp [hin]
                go_wp2_with fail
                go_meet
                first | exact ⟨true, rfl, hbb.out, rfl⟩ | ((repeat apply Exists.intro); exact ⟨⟨true, rfl, hbb.out, rfl⟩, rfl⟩)
              · have hbb : Hid (false = (decide (i < n) && !true)) := by show _ = _; simp
                go_wp2_with fail
                go_meet
                first | exact ⟨false, rfl, hbb.out, rfl⟩ | ((repeat apply Exists.intro); exact ⟨⟨false, rfl, hbb.out, rfl⟩, rfl⟩)
            · have hbb : Hid (false = (decide (i < n) && !r)) := by show _ = _; simp [hin]
              have din : decide (i < n) = false := by simp; omega
              go_wp2_with fail
              go_meet
              first | exact ⟨false, rfl, hbb.out, rfl⟩ | ((repeat apply Exists.intro); exact ⟨⟨false, rfl, hbb.out, rfl⟩, rfl⟩)
          case rest =>
          obtain ⟨bb, rfl, hbb, hwx⟩ := hcut
          have hwx' : wr = wc := hwx.out
          subst hwx'
          cases bb with
          | false =>
            have HEND : Hid (¬ (i < n ∧ r = false)) := fun h => by have := hbb.out; simp [h.1, h.2] at this
            clear hbb hwx
            have HRR : Hid (r = true ↔ (k = 0 ∨ ∃ i, RoomAt ds across k i)) := by
              show _ ↔ _
              constructor
              · intro h
                rcases HR.out.1 h with h | ⟨i', _, h⟩
                · exact .inl h
                · exact .inr ⟨i', h⟩
              · intro h
                rcases h with h | ⟨i0, h⟩
                · exact HR.out.2 (.inl h)
                · by_cases hi0 : i0 < i
                  · exact HR.out.2 (.inr ⟨i0, hi0, h⟩)
                  · have hil : i0 < n := by
                      obtain ⟨d, h1, _⟩ := h
                      have := (List.getElem?_eq_some_iff.1 h1).1
                      have := HN.out
                      omega
                    cases hr : r with
                    | true => rfl
                    | false => exact absurd ⟨by omega, hr⟩ HEND.out
            have HGr : Hid _ := (hbel.block _ (heap_lt HGB.out)).trans HGB.out
            have c0 := blk_c HGr.out (Below.refl _ _) (i := 0) rfl
            have c1 := blk_c HGr.out (Below.refl _ _) (i := 1) rfl
            have c2 := blk_c HGr.out (Below.refl _ _) (i := 2) rfl
            have c3 := blk_c HGr.out (Below.refl _ _) (i := 3) rfl
            have c4 := blk_c HGr.out (Below.refl _ _) (i := 4) rfl
            have c5 := blk_c HGr.out (Below.refl _ _) (i := 5) rfl
            have c6 := blk_c HGr.out (Below.refl _ _) (i := 6) rfl
            have c7 := blk_c HGr.out (Below.refl _ _) (i := 7) rfl
            have c8 := blk_c HGr.out (Below.refl _ _) (i := 8) rfl
            have c9 := blk_c HGr.out (Below.refl _ _) (i := 9) rfl
            by_cases hcpu : rc ≤ cpu
            · have dcpu : decide (rc ≤ cpu) = true := by simp [hcpu]
              by_cases hmem : rm ≤ mem
              · have dmem : decide (rm ≤ mem) = true := by simp [hmem]
                have hr : r = false := by
                  cases hr : r with
                  | false => rfl
                  | true => exact absurd ((fits_iff HST.out cpu mem rc rm across k).2 ⟨hcpu, hmem, HRR.out.1 hr⟩) HFT.out
                subst hr
                go_wp2_with fail
                refine (zzRefused_yes wr).mono ?_
                rintro e w' ⟨rfl, hb'⟩
                go_wp2_with fail
                go_ret
                exact ⟨rfl, hbW.trans (hb'.mono hbW.size)⟩
              · have dmem : decide (rm ≤ mem) = false := by simp; omega
                go_wp2_with fail
                refine (zzRefused_yes wr).mono ?_
                rintro e w' ⟨rfl, hb'⟩
                go_wp2_with fail
                go_ret
                exact ⟨rfl, hbW.trans (hb'.mono hbW.size)⟩
            · have dcpu : decide (rc ≤ cpu) = false := by simp; omega
              go_wp2_with fail
              refine (zzRefused_yes wr).mono ?_
              rintro e w' ⟨rfl, hb'⟩
              go_wp2_with fail
              go_ret
              exact ⟨rfl, hbW.trans (hb'.mono hbW.size)⟩

          | true =>
            have hin : i < n := by have := hbb.out; simp at this; exact this.1
            have hrf : r = false := by have := hbb.out; simp at this; exact this.2
            subst hrf
            clear hbb hwx
            obtain ⟨hii, hiu, hdi⟩ := zip_at (is := is) (us := us) (i := i) (by rw [← HDS.out, ← HN.out]; exact hin)
            obtain ⟨gI, oI, ha, hcI⟩ := row_str (HI.out.below hbW) i hii
            cases ha
            obtain ⟨gU, oU, ha, hcU⟩ := row_bool (HU.out.below hbW) i hiu
            cases ha
            have HDI : Hid (ds[i]? = some (is[i], us[i])) := by have h := HDS.out; show _ = _; rw [h]; exact hdi
            have HNI : Hid (w.cell? ⟨gI, oI + i, none⟩ = some (.string is[i])) := by
              obtain ⟨b1, o1, e1, h1⟩ := row_str HI.out i hii
              cases e1
              exact h1
            clear hdi hcI
            generalize is[i] = nm at *
            cases hui : us[i] with
            | true =>
              rw [hui] at hcU
              have HRN : Hid (false = true ↔ (k = 0 ∨ ∃ i', i' < i + 1 ∧ RoomAt ds across k i')) := by
                show _ ↔ _
                constructor
                · intro h; cases h
                · rintro (h | ⟨i', h, hro⟩)
                  · exact HR.out.2 (.inl h)
                  · rcases Nat.lt_or_ge i' i with h' | h'
                    · exact HR.out.2 (.inr ⟨i', h', hro⟩)
                    · obtain rfl : i' = i := by omega
                      obtain ⟨d, h1, h2, _⟩ := hro
                      have h3 := HDI.out
                      rw [h1] at h3
                      cases h3
                      simp only at h2
                      rw [hui] at h2
                      cases h2
              go_wp2_with fail
              go_roundw
              case rel => first | exact ⟨i + 1, false, by omega, by go_num, rfl, HRN.out, hbel⟩ | ((repeat apply Exists.intro); exact ⟨⟨i + 1, false, by omega, by go_num, rfl, HRN.out, hbel⟩, rfl⟩)
              case measure => simp [intOf]; omega
            | false =>
              rw [hui] at hcU
              have HUI : Hid (us[i] = false) := hui
              clear hui
              go_wp2_with fail
              go_loopw [29, 30] (fun cv jv wq => ∃ (j c : Nat), i ≤ j ∧ j ≤ n ∧ jv = .int .i64 j ∧ cv = .int .i64 c ∧ Hid (c = ((ds.take j).drop i).countP (okD across nm)) ∧ c ≤ j ∧ Below W6.heap.size W6 wq) (fun _ jv _ => n - (intOf jv).toNat)
              case atStart => exact ⟨i, 0, Nat.le_refl _, hi, rfl, rfl, by show _ = _; simp, Nat.zero_le _, hbel⟩
              case round =>
                clear hbel hbW
                obtain ⟨j, c, hij, hj, rfl, rfl, HC, hcj, hbq⟩ := hrel
                have hbQ : Below w.heap.size w wr := HBW6.out.trans (hbq.mono HBW6.out.size)
                by_cases hjn : j < n
                · obtain ⟨hji, hju, hdj⟩ := zip_at (is := is) (us := us) (i := j) (by rw [← HDS.out, ← HN.out]; exact hjn)
                  obtain ⟨b1, o1, e1, c1⟩ := row_str (HI.out.below hbQ) j hji
                  cases e1
                  obtain ⟨b2, o2, e2, c2⟩ := row_bool (HU.out.below hbQ) j hju
                  cases e2
                  have cn : wr.cell? ⟨gI, oI + i, none⟩ = some (.string nm) := (hbQ.cell (cell_lt HNI.out)).trans HNI.out
                  have HDJ : Hid (ds[j]? = some (is[j], us[j])) := by have h := HDS.out; show _ = _; rw [h]; exact hdj
                  have HTK : Hid ((ds.take (j + 1)).drop i = (ds.take j).drop i ++ [(is[j], us[j])]) := by
                    have hjd : j < ds.length := by rw [← HN.out]; exact hjn
                    show _ = _
                    rw [List.take_succ_eq_append_getElem hjd, List.drop_append_of_le_length (by rw [List.length_take]; omega)]
                    have h := HDJ.out
                    rw [List.getElem?_eq_getElem hjd] at h
                    rw [Option.some.inj h]
                  clear hdj
                  generalize is[j] = nj at *
                  cases huj : us[j] with
                  | true =>
                    rw [huj] at c2
                    have HCN : Hid (c = ((ds.take (j + 1)).drop i).countP (okD across nm)) := by show _ = _; rw [HTK.out, List.countP_append, ← HC.out, huj]; simp [okD]
                    clear huj
                    go_wp2_with fail
                    go_quiet (fail)
                    go_wp2_with fail
                    go_roundw
                    case rel => first | exact ⟨j + 1, c, by omega, by omega, by go_num, rfl, HCN.out, by omega, below_drewN hbq _⟩ | ((repeat apply Exists.intro); exact ⟨⟨j + 1, c, by omega, by omega, by go_num, rfl, HCN.out, by omega, below_drewN hbq _⟩, rfl⟩)
                    case measure => simp [intOf]; omega
                  | false =>
                    rw [huj] at c2
                    by_cases hok : across = true ∨ nj = nm
                    · have HCN : Hid (c + 1 = ((ds.take (j + 1)).drop i).countP (okD across nm)) := by
                        show _ = _
                        rw [HTK.out, List.countP_append, ← HC.out, huj]
                        rcases hok with h | h <;> simp [okD, h]
                      clear huj
                      cases across with
                      | true =>
                        go_wp2_with fail
                        go_quiet (fail)
                        go_wp2_with fail
                        go_roundw
                        case rel => first | exact ⟨j + 1, c + 1, by omega, by omega, by go_num, by go_num, HCN.out, by omega, below_drewN hbq _⟩ | ((repeat apply Exists.intro); exact ⟨⟨j + 1, c + 1, by omega, by omega, by go_num, by go_num, HCN.out, by omega, below_drewN hbq _⟩, rfl⟩)
                        case measure => simp [intOf]; omega
                      | false =>
                        have hnm : nj = nm := by simpa using hok
                        subst hnm
                        go_wp2_with fail
                        go_quiet (fail)
                        go_wp2_with fail
                        go_roundw
                        case rel => first | exact ⟨j + 1, c + 1, by omega, by omega, by go_num, by go_num, HCN.out, by omega, below_drewN hbq _⟩ | ((repeat apply Exists.intro); exact ⟨⟨j + 1, c + 1, by omega, by omega, by go_num, by go_num, HCN.out, by omega, below_drewN hbq _⟩, rfl⟩)
                        case measure => simp [intOf]; omega
                    · obtain ⟨hac, hnm⟩ := not_or.1 hok
                      have hac' : across = false := by simpa using hac
                      have HCN : Hid (c = ((ds.take (j + 1)).drop i).countP (okD across nm)) := by
                        show _ = _
                        rw [HTK.out, List.countP_append, ← HC.out, huj, hac']
                        simp [okD, hnm]
                      clear huj hok hac
                      subst hac'
                      have e1 : (nj == nm) = false := by rw [beq_bytes]; simp [hnm]
                      have e2 : decide (nj = nm) = false := by simp [hnm]
                      have e3 : (nj.toList == nm.toList) = false := by rw [bytes_beq_list]; exact e1
                      go_wp2_with fail
                      go_quiet (fail)
                      go_wp2_with fail
                      go_roundw
                      case rel => first | exact ⟨j + 1, c, by omega, by omega, by go_num, rfl, HCN.out, by omega, below_drewN hbq _⟩ | ((repeat apply Exists.intro); exact ⟨⟨j + 1, c, by omega, by omega, by go_num, rfl, HCN.out, by omega, below_drewN hbq _⟩, rfl⟩)
                      case measure => simp [intOf]; omega
                · obtain rfl : j = n := by omega
                  have HCD : Hid (c = (ds.drop i).countP (okD across nm)) := by have h := HC.out; rw [List.take_of_length_le (by rw [HN.out]; exact Nat.le_refl _)] at h; exact h
                  by_cases hck : k ≤ c
                  · have dck : decide (k ≤ c) = true := by simp [hck]
                    have HRN : Hid (true = true ↔ (k = 0 ∨ ∃ i', i' < i + 1 ∧ RoomAt ds across k i')) := ⟨fun _ => .inr ⟨i, by omega, (nm, us[i]), HDI.out, HUI.out, by rw [← HCD.out]; exact hck⟩, fun _ => rfl⟩
                    go_wp2_with fail
                    go_roundw
                    case rel => first | exact ⟨i + 1, true, by omega, by go_num, rfl, HRN.out, hbq⟩ | ((repeat apply Exists.intro); exact ⟨⟨i + 1, true, by omega, by go_num, rfl, HRN.out, hbq⟩, rfl⟩)
                    case measure => simp [intOf]; omega
                  · have dck : decide (k ≤ c) = false := by simp; omega
                    have HRN : Hid (false = true ↔ (k = 0 ∨ ∃ i', i' < i + 1 ∧ RoomAt ds across k i')) := by
                      show _ ↔ _
                      constructor
                      · intro h; cases h
                      · rintro (h | ⟨i', h, hro⟩)
                        · exact HR.out.2 (.inl h)
                        · rcases Nat.lt_or_ge i' i with h' | h'
                          · exact HR.out.2 (.inr ⟨i', h', hro⟩)
                          · obtain rfl : i' = i := by omega
                            obtain ⟨d, h1, h2, h3⟩ := hro
                            have h4 := HDI.out
                            rw [h1] at h4
                            cases h4
                            simp only at h3
                            rw [← HCD.out] at h3
                            exact absurd h3 hck
                    go_wp2_with fail
                    go_roundw
                    case rel => first | exact ⟨i + 1, false, by omega, by go_num, rfl, HRN.out, hbq⟩ | ((repeat apply Exists.intro); exact ⟨⟨i + 1, false, by omega, by go_num, rfl, HRN.out, hbq⟩, rfl⟩)
                    case measure => simp [intOf]; omega

end Go.Proofs.Qxb6612460aGreatFmt
