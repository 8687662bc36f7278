import Derived.Test.Qxb6612460aGreatFmtPickR
import Derived.Lib.SliceRun
namespace Go.Proofs.Qxb6612460aGreatFmt
open Go.RowKit Go.Sort
attribute [local go_sem] Option.isNone_none Option.isNone_some
attribute [local go_sem] sUpon mUpon

set_option maxRecDepth 100000 in
set_option maxHeartbeats 2000000 in
theorem pick_isl (b : Nat) (cpu mem rc rm : Int) (k : Nat) (across : Bool) (ps : List (Nat × Bool)) (fr : List Nat) (w : World) (hB : BooksAt w b cpu mem ps fr) (hc0 : 0 ≤ cpu) (hc1 : cpu ≤ 9223372036854775807) (hm0 : 0 ≤ mem) (hm1 : mem ≤ 9223372036854775807) (h : ¬ (cpu < rc ∨ mem < rm)) (hk : k ≤ sumN fr) (hk0 : 0 < k) (hk2 : k ≤ 65536) (hfl : fr.length ≤ 65536) (hpl : ps.length ≤ 65536) (hF : FrOf ps fr) (hyes : ∃ i, i < fr.length ∧ k ≤ fr[i]?.getD 0) :
    Calls Tryz.prog 38 #[.pointer (some ⟨b, 0, none⟩), reqV rc rm k 0, .bool across] w (PickPost w ps k true) := by
  unfold reqV
  have HB : Hid (BooksAt w b cpu mem ps fr) := hB
  have c1 := hB.c1
  have c2 := hB.c2
  have c6 := hB.c6
  have c7 := hB.c7
  have c11 := hB.c11
  clear hB
  have hlt := cell_lt c1
  simp only at hlt
  have HFO : Hid _ := hF
  have HY : Hid _ := hyes
  clear hF hyes
  have d1 : decide (cpu < rc) = false := by simp; omega
  have d2 : decide (mem < rm) = false := by simp; omega
  have d3 : decide (sumN fr < k) = false := by simp; omega
  obtain ⟨i0, hi, hz0, hz1, hz2⟩ := info_parts Tryz.info3
  have d4 : decide (0 < k) = true := by simp; omega
  have q23 : ∀ (w : World), (binOp .eql 23 (.slice none 0 0) (.slice none 0 0)).run Tryz.prog w = .ok (.bool true) w := fun w => Lib.run_eql_slice_nil w _ _ none 0 0 0 0 Tryz.underlying23
  have n23 : ∀ (w : World), (binOp .neq 23 (.slice none 0 0) (.slice none 0 0)).run Tryz.prog w = .ok (.bool false) w := fun w => run_neq_slice_nil_any w _ _ none 0 0 0 0 Tryz.underlying23
  go_enter Tryz.func38, Tryz.ntmps38
  go_wp2_with fail
  go_quiet (fail)
  go_wp2_with fail
  go_quiet (fail)
  go_wp2_with fail
  generalize hW0 : (w.alloc (.cells #[.int .i64 rc, .int .i64 rm, .int .i64 k, .int .i64 0, .int .i64 0, .int .i64 0, .bool false, .string ⟨#[]⟩] 34)).drewN _ = W0 at *
  have hb0 : Below w.heap.size w W0 := by rw [← hW0]; exact below_drewN (below_alloc1 _ _) _
  have hs0 : W0.heap.size = w.heap.size + 1 := by rw [← hW0]; simp [World.drewN]
  have q2W : W0.cell? ⟨w.heap.size, 2, none⟩ = some (.int .i64 k) := by rw [← hW0]; exact (cell_of_row _ _ _ _ _ _ (heap_alloc_new w _)).trans rfl
  clear hW0
  have hltQ : w.heap.size < W0.heap.size := by omega
  have hltW : b < W0.heap.size := by omega
  have HBW : Hid (BooksAt W0 b cpu mem ps fr) := HB.out.below hb0
  obtain ⟨ga, gc, c8W, R8'⟩ := HBW.out.c8
  have R8 : Hid _ := R8'
  obtain ⟨ia, ic, c12W, R12'⟩ := HBW.out.c12
  have R12 : Hid _ := R12'
  clear R8' R12' c1 c2 c6 c7 c11 d1 d2 d3
  refine (tightestIsland b k fr _ HBW.out.free hfl).mono ?_
  rintro e W1 ⟨⟨r, rfl, hT⟩, hb1⟩
  have HI : Hid (IslInv ps r k 0 []) := by
    rcases hT with ⟨-, h2⟩ | ⟨i, h1, rfl, h2⟩
    · obtain ⟨i, h3, h4⟩ := HY.out
      have := h2 i h3
      omega
    · exact isl_start _ _ _ (by rw [← HFO.out.1 i]; exact h2)
  have hr0 : 0 ≤ r := by
    rcases hT with ⟨-, h2⟩ | ⟨i, h1, rfl, h2⟩
    · obtain ⟨i, h3, h4⟩ := HY.out
      have := h2 i h3
      omega
    · omega
  have d8 : decide (0 ≤ r) = true := by simp [hr0]
  clear hT
  have hW01 : w.heap.size ≤ W1.heap.size := by have := hb1.size; omega
  have q2W1 := (hb1.cell (p := ⟨w.heap.size, 2, none⟩) hltQ).trans q2W
  go_wp2_with (at_make; go_must (refine wpList_make_any _ rfl _ _ 23 rfl W1.heap.size 3 i0 (.int .i64 0) 1 Tryz.underlying23 hi hz0 hz1 .i64 .i64 0 k rfl rfl (by omega) (by rw [hz2]; omega) (by unfold maxLen; omega) (Nat.le_refl _) ?_); intro w2 hown2 hgrow2; have hb2 : Below W0.heap.size W0 w2 := hb1.grown hgrow2 hb1.size (fun k h => by cases h); have e8 := (hb2.cell (p := ⟨b, 8, none⟩) hltW).trans c8W)
  have hown2' : w2.ownsRow W1.heap.size 3 1 (.slice (some ⟨W1.heap.size, 0, none⟩) ([] : List Nat).length k) ([] : List Nat).length (([] : List Nat).map natV) := by simpa using hown2
  clear hown2 hgrow2
  go_loopw [15, 172] (fun v iv wr => ∃ (i : Nat) (L : List Nat) (g cap : Nat), i ≤ ps.length ∧ iv = .int .i64 i ∧ v = .slice (some ⟨g, 0, none⟩) L.length cap ∧ wr.ownsRow W1.heap.size 3 1 (.slice (some ⟨g, 0, none⟩) L.length cap) L.length (L.map natV) ∧ Hid (IslInv ps r k i L) ∧ Below W0.heap.size W0 wr) (fun _ iv _ => ps.length - (intOf iv).toNat)
  case atStart => exact ⟨0, [], _, _, Nat.zero_le _, rfl, rfl, hown2', HI.out, hb2⟩
  case round =>
    clear hown2' hb2 e8
    obtain ⟨i, L, g, cap, hil, rfl, rfl, hown, hI, hbel⟩ := hrel
    have hbs := hbel.size
    have hLk := hI.out.1
    have e2 := (hbel.cell (p := ⟨w.heap.size, 2, none⟩) hltQ).trans q2W
    by_cases hin : i < ps.length
    · obtain ⟨gh, oh, hgh, hch⟩ := R8.out i (.int .i64 0) (by simp [hin])
      cases hgh
      have hch' := (hbel.cell (p := ⟨gh, oh + i, none⟩) (cell_lt hch)).trans hch
      clear hch
      by_cases hfull : L.length = k
      · have d5 : ((L.length : Int) == (k : Int)) = true := by simp [hfull]
        have d6 : (L.length == k) = true := by simp [hfull]
        have HG : Hid (GrantedIds ps k true L) := isl_granted hI.out hfull true
        have HF : Hid (L.length = k) := hfull
        clear hfull
        go_wp2_with fail
        go_ret2
        exact pickPost_mk hW01 hown HF.out HG.out (hb0.trans (hbel.mono (by omega)))
      · have d5 : ((L.length : Int) == (k : Int)) = false := by simp; omega
        have d6 : (L.length == k) = false := by simp [hfull]
        have HFl : Hid (L.length ≠ k) := hfull
        obtain ⟨p, hp⟩ : ∃ p, ps[i]? = some p := ⟨ps[i], List.getElem?_eq_getElem hin⟩
        have HP : Hid (ps[i]? = some p) := hp
        have HH : Hid (HealthAt wr b i p.2) := (HBW.out.health i p hp).below hbel
        obtain ⟨gi, oi, hgi, hci⟩ := R12.out i (natV p.1) (by simp [hp])
        cases hgi
        have hci' : wr.cell? ⟨gi, oi + i, none⟩ = some (.int .i64 (p.1 : Nat)) := (hbel.cell (p := ⟨gi, oi + i, none⟩) (cell_lt hci)).trans hci
        have e12 := (hbel.cell (p := ⟨b, 12, none⟩) hltW).trans c12W
        obtain ⟨pi, ph⟩ := p
        simp only at hci'
        clear hci hp hfull
        cases ph
        · have HN : Hid (IslInv ps r k (i + 1) L) := isl_skip hI.out _ HP.out (fun h => by cases h.1)
          go_wp2_with fail
          refine (healthy b i false wr HH.out).mono ?_
          rintro e w' ⟨rfl, rfl⟩
          go_wp2_with fail
          go_roundw
          case rel => first | exact ⟨i + 1, L, g, cap, by omega, by go_num, rfl, hown, HN.out, hbel⟩ | ((repeat apply Exists.intro); exact ⟨⟨i + 1, L, g, cap, by omega, by go_num, rfl, hown, HN.out, hbel⟩, rfl⟩)
          case measure => simp [intOf]; omega
        · by_cases hr : ((pi : Nat) : Int) = r
          · have HN : Hid (IslInv ps r k (i + 1) (L ++ [i])) := isl_take hI.out HFl.out _ HP.out rfl hr
            have d7 : (((pi : Nat) : Int) == r) = true := by simp [hr]
            clear hr
            go_wp2_with fail
            refine (healthy b i true wr HH.out).mono ?_
            rintro e w' ⟨rfl, rfl⟩
            go_wp2_with (at_builtin; go_must (refine wpList_append_own _ rfl _ _ 23 rfl W1.heap.size 3 i0 (.int .i64 0) 1 8 Tryz.underlying23 hi hz0 hz1 hz2 rfl (by decide) _ _ _ rfl (hown.alloc _) ⟨wr.heap.size, 0, none⟩ 1 1 [.int .i64 i] rfl rfl (cell_one_new _ _ _) (by intro u hu; simp at hu; subst hu; rfl) (by unfold maxLen; omega) (by omega) (by have := ownsRow_lt hown g rfl; have := owns_block hown g rfl; simp; omega) ?_); intro v' w3 hown3 hgrow3 _; obtain ⟨g3, cap3, rfl⟩ := owns_form' hown3 (by omega))
            have hbel3 : Below W0.heap.size W0 w3 := below_append hbel hgrow3 (fun q hq => Nat.le_trans hb1.size (owns_block hown q hq))
            have hown3' : w3.ownsRow W1.heap.size 3 1 (.slice (some ⟨g3, 0, none⟩) (L ++ [i]).length cap3) (L ++ [i]).length ((L ++ [i]).map natV) := by simpa [natV] using hown3
            clear hown3
            go_roundw
            case rel => first | exact ⟨i + 1, L ++ [i], g3, cap3, by omega, by go_num, by simp, hown3', HN.out, hbel3⟩ | ((repeat apply Exists.intro); exact ⟨⟨i + 1, L ++ [i], g3, cap3, by omega, by go_num, by simp, hown3', HN.out, hbel3⟩, rfl⟩)
            case measure => simp [intOf]; omega
          · have HN : Hid (IslInv ps r k (i + 1) L) := isl_skip hI.out _ HP.out (fun h => hr h.2)
            have d7 : (((pi : Nat) : Int) == r) = false := by simp [hr]
            clear hr
            go_wp2_with fail
            refine (healthy b i true wr HH.out).mono ?_
            rintro e w' ⟨rfl, rfl⟩
            go_wp2_with fail
            go_roundw
            case rel => first | exact ⟨i + 1, L, g, cap, by omega, by go_num, rfl, hown, HN.out, hbel⟩ | ((repeat apply Exists.intro); exact ⟨⟨i + 1, L, g, cap, by omega, by go_num, rfl, hown, HN.out, hbel⟩, rfl⟩)
            case measure => simp [intOf]; omega
    · obtain rfl : i = ps.length := by omega
      have HG : Hid (GrantedIds ps k true L) := isl_granted hI.out (isl_end hI.out) true
      have HF : Hid (L.length = k) := isl_end hI.out
      go_wp2_with fail
      go_ret2
      exact pickPost_mk hW01 hown HF.out HG.out (hb0.trans (hbel.mono (by omega)))

end Go.Proofs.Qxb6612460aGreatFmt
