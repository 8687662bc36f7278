import Derived.Test.Qxb6612460aGreatFmtPickI
import Derived.Lib.SliceRun
namespace Go.Proofs.Qxb6612460aGreatFmt
open Go.RowKit Go.Sort
attribute [local go_sem] Option.isNone_none Option.isNone_some
attribute [local go_sem] sUpon mUpon

set_option maxRecDepth 100000 in
set_option maxHeartbeats 2000000 in
theorem pick_zero (b : Nat) (cpu mem rc rm : Int) (k : Nat) (across : Bool) (ps : List (Nat × Bool)) (fr : List Nat) (w : World) (hB : BooksAt w b cpu mem ps fr) (hc0 : 0 ≤ cpu) (hc1 : cpu ≤ 9223372036854775807) (hm0 : 0 ≤ mem) (hm1 : mem ≤ 9223372036854775807) (h : ¬ (cpu < rc ∨ mem < rm)) (hk : k = 0) :
    Calls Tryz.prog 38 #[.pointer (some ⟨b, 0, none⟩), reqV rc rm k 0, .bool across] w (PickPost w ps k true) := by
  unfold reqV
  have HB : Hid (BooksAt w b cpu mem ps fr) := hB
  have c1 := hB.c1
  have c2 := hB.c2
  have c6 := hB.c6
  have c7 := hB.c7
  have c11 := hB.c11
  clear hB
  have hlt := cell_lt c1
  simp only at hlt
  have hkF : k ≤ sumN fr := by omega
  have d1 : decide (cpu < rc) = false := by simp; omega
  have d2 : decide (mem < rm) = false := by simp; omega
  have d3 : decide (sumN fr < k) = false := by simp; omega
  obtain ⟨i0, hi, hz0, hz1, hz2⟩ := info_parts Tryz.info3
  have d4 : decide (0 < k) = false := by simp; omega
  have HI : Hid (IslInv ps (-1) k 0 []) := isl_start _ _ _ (by omega)
  have HK0 : Hid (k = 0) := hk
  have hk2 : k ≤ 65536 := by omega
  clear hk hkF
  go_enter Tryz.func38, Tryz.ntmps38
  go_wp2_with fail
  go_quiet (fail)
  go_wp2_with fail
  go_quiet (fail)
  go_upto_region 24 with fail
  try simp only [World.drewN_drewN]
  generalize hW0 : (w.alloc (.cells #[.int .i64 rc, .int .i64 rm, .int .i64 k, .int .i64 0, .int .i64 0, .int .i64 0, .bool false, .string ⟨#[]⟩] 34)).drewN _ = W0 at *
  have hb0 : Below w.heap.size w W0 := by rw [← hW0]; exact below_drewN (below_alloc1 _ _) _
  have hs0 : W0.heap.size = w.heap.size + 1 := by rw [← hW0]; simp [World.drewN]
  have q2W : W0.cell? ⟨w.heap.size, 2, none⟩ = some (.int .i64 k) := by rw [← hW0]; exact (cell_of_row _ _ _ _ _ _ (heap_alloc_new w _)).trans rfl
  clear hW0
  have hltQ : w.heap.size < W0.heap.size := by omega
  have hltW : b < W0.heap.size := by omega
  have HBW : Hid (BooksAt W0 b cpu mem ps fr) := HB.out.below hb0
  obtain ⟨ga, gc, c8W, R8'⟩ := HBW.out.c8
  have R8 : Hid _ := R8'
  obtain ⟨ia, ic, c12W, R12'⟩ := HBW.out.c12
  have R12 : Hid _ := R12'
  clear R8' R12' c1 c2 c6 c7 c11 d1 d2 d3
  have hbr : Below W0.heap.size W0 W0 := Below.refl _ _
  have hW01 : w.heap.size ≤ W0.heap.size := by omega
  go_wp2_with (at_make; go_must (refine wpList_make_any _ rfl _ _ 23 rfl W0.heap.size 3 i0 (.int .i64 0) 1 Tryz.underlying23 hi hz0 hz1 .i64 .i64 0 k rfl rfl (by omega) (by rw [hz2]; omega) (by unfold maxLen; omega) (Nat.le_refl _) ?_); intro w2 hown2 hgrow2; have hb2 : Below W0.heap.size W0 w2 := hbr.grown hgrow2 hbr.size (fun k h => by cases h); have e8 := (hb2.cell (p := ⟨b, 8, none⟩) hltW).trans c8W)
  have hown2' : w2.ownsRow W0.heap.size 3 1 (.slice (some ⟨W0.heap.size, 0, none⟩) ([] : List Nat).length k) ([] : List Nat).length (([] : List Nat).map natV) := by simpa using hown2
  clear hown2 hgrow2
  go_loopw [15, 172] (fun v iv wr => ∃ (i : Nat) (L : List Nat) (g cap : Nat), i ≤ ps.length ∧ iv = .int .i64 i ∧ v = .slice (some ⟨g, 0, none⟩) L.length cap ∧ wr.ownsRow W0.heap.size 3 1 (.slice (some ⟨g, 0, none⟩) L.length cap) L.length (L.map natV) ∧ Hid (IslInv ps (-1) k i L) ∧ Below W0.heap.size W0 wr) (fun _ iv _ => ps.length - (intOf iv).toNat)
  case atStart => exact ⟨0, [], _, _, Nat.zero_le _, rfl, rfl, (by simpa only [hs0] using hown2'), HI.out, hb2⟩
  case round =>
    clear hown2' hb2 e8
    obtain ⟨i, L, g, cap, hil, rfl, rfl, hown, hI, hbel⟩ := hrel
    have hbs := hbel.size
    have hLk := hI.out.1
    have e2 := (hbel.cell (p := ⟨w.heap.size, 2, none⟩) hltQ).trans q2W
    by_cases hin : i < ps.length
    · obtain ⟨gh, oh, hgh, hch⟩ := R8.out i (.int .i64 0) (by simp [hin])
      cases hgh
      have _hch' := (hbel.cell (p := ⟨gh, oh + i, none⟩) (cell_lt hch)).trans hch
      clear hch
      by_cases hfull : L.length = k
      · have d5 : ((L.length : Int) == (k : Int)) = true := by simp [hfull]
        have d6 : (L.length == k) = true := by simp [hfull]
        have HG : Hid (GrantedIds ps k true L) := isl_granted hI.out hfull true
        have HF : Hid (L.length = k) := hfull
        clear hfull
        go_wp2_with fail
        go_ret2
        exact pickPost_mk hW01 hown HF.out HG.out (hb0.trans (hbel.mono (by omega)))
      · exact absurd (by have := HK0.out; omega) hfull
    · obtain rfl : i = ps.length := by omega
      have HG : Hid (GrantedIds ps k true L) := isl_granted hI.out (isl_end hI.out) true
      have HF : Hid (L.length = k) := isl_end hI.out
      go_wp2_with fail
      go_ret2
      exact pickPost_mk hW01 hown HF.out HG.out (hb0.trans (hbel.mono (by omega)))

end Go.Proofs.Qxb6612460aGreatFmt
