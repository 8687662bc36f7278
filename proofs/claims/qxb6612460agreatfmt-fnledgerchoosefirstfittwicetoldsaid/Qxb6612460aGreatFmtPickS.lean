import Derived.Test.Qxb6612460aGreatFmtPickI
import Derived.Lib.SliceRun
namespace Go.Proofs.Qxb6612460aGreatFmt
open Go.RowKit Go.Sort
attribute [local go_sem] Option.isNone_none Option.isNone_some
attribute [local go_sem] sUpon mUpon

set_option maxRecDepth 100000 in
set_option maxHeartbeats 2000000 in
theorem pick_spread (b : Nat) (cpu mem rc rm : Int) (k : Nat) (across : Bool) (ps : List (Nat × Bool)) (fr : List Nat) (w : World) (hB : BooksAt w b cpu mem ps fr) (hc0 : 0 ≤ cpu) (hc1 : cpu ≤ 9223372036854775807) (hm0 : 0 ≤ mem) (hm1 : mem ≤ 9223372036854775807) (h : ¬ (cpu < rc ∨ mem < rm)) (hk : k ≤ sumN fr) (hk0 : 0 < k) (hk2 : k ≤ 65536) (hfl : fr.length ≤ 65536) (hpl : ps.length ≤ 65536) (hF : FrOf ps fr) (ha : across = true) (hno : ∀ i, i < fr.length → fr[i]?.getD 0 < k) :
    Calls Tryz.prog 38 #[.pointer (some ⟨b, 0, none⟩), reqV rc rm k 0, .bool across] w (PickPost w ps k false) := by
  subst ha
  unfold reqV
  have HB : Hid (BooksAt w b cpu mem ps fr) := hB
  have c1 := hB.c1
  have c2 := hB.c2
  have c6 := hB.c6
  have c7 := hB.c7
  have c11 := hB.c11
  clear hB
  have hlt := cell_lt c1
  simp only at hlt
  have HFO : Hid _ := hF
  have HY : Hid _ := hno
  clear hF hno
  have d1 : decide (cpu < rc) = false := by simp; omega
  have d2 : decide (mem < rm) = false := by simp; omega
  have d3 : decide (sumN fr < k) = false := by simp; omega
  obtain ⟨i0, hi, hz0, hz1, hz2⟩ := info_parts Tryz.info3
  have d4 : decide (0 < k) = true := by simp; omega
  have q23 : ∀ (w : World) (g n c : Nat), (binOp .eql 23 (.slice (some ⟨g, 0, none⟩) n c) (.slice none 0 0)).run Tryz.prog w = .ok (.bool false) w := fun w g n c => Lib.run_eql_slice_nil w _ _ (some _) n c 0 0 Tryz.underlying23
  have n23 : ∀ (w : World) (g n c : Nat), (binOp .neq 23 (.slice (some ⟨g, 0, none⟩) n c) (.slice none 0 0)).run Tryz.prog w = .ok (.bool true) w := fun w g n c => run_neq_slice_nil_any w _ _ (some _) n c 0 0 Tryz.underlying23
  go_enter Tryz.func38, Tryz.ntmps38
  go_wp2_with fail
  go_quiet (fail)
  go_wp2_with fail
  go_quiet (fail)
  go_wp2_with fail
  generalize hW0 : (w.alloc (.cells #[.int .i64 rc, .int .i64 rm, .int .i64 k, .int .i64 0, .int .i64 0, .int .i64 0, .bool false, .string ⟨#[]⟩] 34)).drewN _ = W0 at *
  have hb0 : Below w.heap.size w W0 := by rw [← hW0]; exact below_drewN (below_alloc1 _ _) _
  have hs0 : W0.heap.size = w.heap.size + 1 := by rw [← hW0]; simp [World.drewN]
  have q2W : W0.cell? ⟨w.heap.size, 2, none⟩ = some (.int .i64 k) := by rw [← hW0]; exact (cell_of_row _ _ _ _ _ _ (heap_alloc_new w _)).trans rfl
  clear hW0
  have hltQ : w.heap.size < W0.heap.size := by omega
  have hltW : b < W0.heap.size := by omega
  have HBW : Hid (BooksAt W0 b cpu mem ps fr) := HB.out.below hb0
  obtain ⟨ga, gc, c8W, R8'⟩ := HBW.out.c8
  have R8 : Hid _ := R8'
  obtain ⟨ia, ic, c12W, R12'⟩ := HBW.out.c12
  have R12 : Hid _ := R12'
  clear R8' R12' c1 c2 c6 c7 c11 d1 d2 d3
  refine (tightestIsland b k fr _ HBW.out.free hfl).mono ?_
  rintro e W1 ⟨⟨r, rfl, hT⟩, hb1⟩
  obtain rfl : r = -1 := by
    rcases hT with ⟨h1, -⟩ | ⟨i, h1, rfl, h2⟩
    · exact h1
    · have := HY.out i h1
      omega
  clear hT
  have q2W1 := (hb1.cell (p := ⟨w.heap.size, 2, none⟩) hltQ).trans q2W
  have hs1 := hb1.size
  go_wp2_with fail
  refine (spread b k fr W1 (HBW.out.free.below hb1) hfl (fun x hx => ?_) hk0 hk2 hk).mono ?_
  · obtain ⟨i, hi, rfl⟩ := List.getElem_of_mem hx
    have := HY.out i hi
    rw [List.getElem?_eq_getElem hi] at this
    simp only [Option.getD_some] at this
    omega
  rintro e W2 ⟨⟨gs, xs0, rfl, hsp, hG⟩, hbW⟩
  have hb2 : Below W0.heap.size W0 W2 := hb1.trans (hbW.mono hs1)
  have HI : Hid (SprInv ps xs0 k 0 []) := spr_start HFO.out hG
  have HXL : Hid (xs0.length = fr.length) := hG.1
  have hgs := ownsRow_lt hsp gs rfl
  have hW01 : w.heap.size ≤ W2.heap.size := by have := hb2.size; omega
  have q2W2 := (hb2.cell (p := ⟨w.heap.size, 2, none⟩) hltQ).trans q2W
  clear hG q2W1
  go_wp2_with (at_make; go_must (refine wpList_make_any _ rfl _ _ 23 rfl W2.heap.size 3 i0 (.int .i64 0) 1 Tryz.underlying23 hi hz0 hz1 .i64 .i64 0 k rfl rfl (by omega) (by rw [hz2]; omega) (by unfold maxLen; omega) (Nat.le_refl _) ?_); intro w2 hown2 hgrow2; have hb3 : Below W0.heap.size W0 w2 := hb2.grown hgrow2 hb2.size (fun k h => by cases h); have e8 := (hb3.cell (p := ⟨b, 8, none⟩) hltW).trans c8W)
  have hown2' : w2.ownsRow W2.heap.size 3 1 (.slice (some ⟨W2.heap.size, 0, none⟩) ([] : List Nat).length k) ([] : List Nat).length (([] : List Nat).map natV) := by simpa using hown2
  have hsp2 : w2.ownsRow W1.heap.size 3 1 (.slice (some ⟨gs, 0, none⟩) fr.length fr.length) fr.length (xs0.map natV) := ownsRow_same hsp (fun g hg => by cases hg; exact hgrow2.block gs hgs (by simp))
  clear hown2 hgrow2
  go_loopw [15, 172] (fun v iv wr => ∃ (i : Nat) (L : List Nat) (g cap : Nat) (xs : List Nat), i ≤ ps.length ∧ iv = .int .i64 i ∧ v = .slice (some ⟨g, 0, none⟩) L.length cap ∧ wr.ownsRow W2.heap.size 3 1 (.slice (some ⟨g, 0, none⟩) L.length cap) L.length (L.map natV) ∧ wr.ownsRow W1.heap.size 3 1 (.slice (some ⟨gs, 0, none⟩) fr.length fr.length) fr.length (xs.map natV) ∧ Hid (SprInv ps xs k i L) ∧ Hid (xs.length = fr.length) ∧ Below W0.heap.size W0 wr) (fun _ iv _ => ps.length - (intOf iv).toNat)
  case atStart => exact ⟨0, [], _, _, xs0, Nat.zero_le _, rfl, rfl, hown2', hsp2, HI.out, HXL.out, hb3⟩
  case round =>
    clear hown2' hb3 e8 hsp2
    obtain ⟨i, L, g, cap, xs, hil, rfl, rfl, hown, hspr, hI, hXL, hbel⟩ := hrel
    have hbs := hbel.size
    have hLk : L.length ≤ k := by have := hI.out.1; omega
    have e2 := (hbel.cell (p := ⟨w.heap.size, 2, none⟩) hltQ).trans q2W
    by_cases hin : i < ps.length
    · obtain ⟨gh, oh, hgh, hch⟩ := R8.out i (.int .i64 0) (by simp [hin])
      cases hgh
      have hch' := (hbel.cell (p := ⟨gh, oh + i, none⟩) (cell_lt hch)).trans hch
      clear hch
      by_cases hfull : L.length = k
      · have d5 : ((L.length : Int) == (k : Int)) = true := by simp [hfull]
        have d6 : (L.length == k) = true := by simp [hfull]
        have HG : Hid (GrantedIds ps k false L) := spr_granted hI.out hfull
        have HF : Hid (L.length = k) := hfull
        clear hfull
        go_wp2_with fail
        go_ret2
        exact pickPost_mk hW01 hown HF.out HG.out (hb0.trans (hbel.mono (by omega)))
      · have d5 : ((L.length : Int) == (k : Int)) = false := by simp; omega
        have d6 : (L.length == k) = false := by simp [hfull]
        obtain ⟨p, hp⟩ : ∃ p, ps[i]? = some p := ⟨ps[i], List.getElem?_eq_getElem hin⟩
        have HP : Hid (ps[i]? = some p) := hp
        have HH : Hid (HealthAt wr b i p.2) := (HBW.out.health i p hp).below hbel
        have hpf : p.1 < fr.length := HFO.out.2.1 p (List.mem_of_getElem? hp)
        obtain ⟨gi, oi, hgi, hci⟩ := R12.out i (natV p.1) (by simp [hp])
        cases hgi
        have hci' : wr.cell? ⟨gi, oi + i, none⟩ = some (.int .i64 (p.1 : Nat)) := (hbel.cell (p := ⟨gi, oi + i, none⟩) (cell_lt hci)).trans hci
        have e12 := (hbel.cell (p := ⟨b, 12, none⟩) hltW).trans c12W
        obtain ⟨pi, ph⟩ := p
        simp only at hci' hpf
        clear hci hp hfull
        cases ph
        · have HN : Hid (SprInv ps xs k (i + 1) L) := spr_skip hI.out _ HP.out (.inl rfl)
          go_wp2_with fail
          refine (healthy b i false wr HH.out).mono ?_
          rintro e w' ⟨rfl, rfl⟩
          go_wp2_with fail
          go_roundw
          case rel => first | exact ⟨i + 1, L, g, cap, xs, by omega, by go_num, rfl, hown, hspr, HN.out, hXL.out, hbel⟩ | ((repeat apply Exists.intro); exact ⟨⟨i + 1, L, g, cap, xs, by omega, by go_num, rfl, hown, hspr, HN.out, hXL.out, hbel⟩, rfl⟩)
          case measure => simp [intOf]; omega
        · have hcx := own_cell hspr pi hpf
          have hfz := hspr.frozenAt pi
          have hxb : xs[pi]?.getD 0 ≤ 65536 := by
            have h1 := hI.out.2.1 pi
            have h2 : cntI (ps.drop i) pi ≤ (ps.drop i).length := List.countP_le_length
            rw [List.length_drop] at h2
            omega
          cases hx : xs[pi]?.getD 0 with
          | zero =>
            have HN : Hid (SprInv ps xs k (i + 1) L) := spr_skip hI.out _ HP.out (.inr hx)
            rw [hx] at hcx
            clear hxb hx
            go_wp2_with fail
            refine (healthy b i true wr HH.out).mono ?_
            rintro e w' ⟨rfl, rfl⟩
            go_wp2_with fail
            go_roundw
            case rel => first | exact ⟨i + 1, L, g, cap, xs, by omega, by go_num, rfl, hown, hspr, HN.out, hXL.out, hbel⟩ | ((repeat apply Exists.intro); exact ⟨⟨i + 1, L, g, cap, xs, by omega, by go_num, rfl, hown, hspr, HN.out, hXL.out, hbel⟩, rfl⟩)
            case measure => simp [intOf]; omega
          | succ y =>
            have HN : Hid (SprInv ps (xs.set pi y) k (i + 1) (L ++ [i])) := spr_take hI.out _ HP.out rfl y hx
            have HXS : Hid ((xs.set pi y).length = fr.length) := by show _ = _; simpa using hXL.out
            have hgg := ownsRow_lt hown g rfl
            have hg2 := owns_block hown g rfl
            have hne : g ≠ gs := by omega
            have HSS : Hid _ := own_set hspr pi y
            have HIDS : Hid ((wr.setCell ⟨gs, pi, none⟩ (.int .i64 (y : Int))).ownsRow W2.heap.size 3 1 (.slice (some ⟨g, 0, none⟩) L.length cap) L.length (L.map natV)) := ownsRow_same hown (fun g' hg' => by cases hg'; exact Below.heap_setCell wr ⟨gs, pi, none⟩ _ g hne)
            have HBB : Hid (Below W0.heap.size W0 (wr.setCell ⟨gs, pi, none⟩ (.int .i64 (y : Int)))) := hbel.setCell (by have := owns_block hspr gs rfl; simp only; have := hb1.size; omega) _
            have hszz : (wr.setCell ⟨gs, pi, none⟩ (.int .i64 (y : Int))).heap.size = wr.heap.size := by simp [World.setCell]
            rw [hx] at hcx
            rw [hx] at hxb
            have d7 : decide (0 < y + 1) = true := by simp
            clear hx
            go_wp2_with fail
            refine (healthy b i true wr HH.out).mono ?_
            rintro e w' ⟨rfl, rfl⟩
            go_wp2_with (at_builtin; go_must (refine wpList_append_own _ rfl _ _ 23 rfl W2.heap.size 3 i0 (.int .i64 0) 1 8 Tryz.underlying23 hi hz0 hz1 hz2 rfl (by decide) _ _ _ rfl (HIDS.out.alloc _) ⟨wr.heap.size, 0, none⟩ 1 1 [.int .i64 i] rfl rfl (fun j u hu => by rw [← hszz]; exact cell_one_new _ _ _ j u hu) (by intro u hu; simp at hu; subst hu; rfl) (by unfold maxLen; omega) (by omega) (by simp; omega) ?_); intro v' w3 hown3 hgrow3 _; obtain ⟨g3, cap3, rfl⟩ := owns_form' hown3 (by omega))
            have hbel3 : Below W0.heap.size W0 w3 := below_append HBB.out hgrow3 (fun q hq => Nat.le_trans hb2.size (owns_block hown q hq))
            have hown3' : w3.ownsRow W2.heap.size 3 1 (.slice (some ⟨g3, 0, none⟩) (L ++ [i]).length cap3) (L ++ [i]).length ((L ++ [i]).map natV) := by simpa [natV] using hown3
            have hspr3 : w3.ownsRow W1.heap.size 3 1 (.slice (some ⟨gs, 0, none⟩) fr.length fr.length) fr.length ((xs.set pi y).map natV) := ownsRow_same HSS.out (fun g' hg' => by
              cases hg'
              refine (hgrow3.block gs (by have := ownsRow_lt hspr gs rfl; simp; omega) (fun (e : some gs = some g) => hne (Option.some.inj e).symm)).trans ?_
              exact heap_alloc_old _ _ (by have := ownsRow_lt hspr gs rfl; omega))
            clear hown3
            go_roundw
            case rel => first | exact ⟨i + 1, L ++ [i], g3, cap3, _, by omega, by go_num, by simp, hown3', hspr3, HN.out, HXS.out, hbel3⟩ | ((repeat apply Exists.intro); exact ⟨⟨i + 1, L ++ [i], g3, cap3, _, by omega, by go_num, by simp, hown3', hspr3, HN.out, HXS.out, hbel3⟩, rfl⟩)
            case measure => simp [intOf]; omega
    · obtain rfl : i = ps.length := by omega
      have HG : Hid (GrantedIds ps k false L) := spr_granted hI.out (spr_end hI.out)
      have HF : Hid (L.length = k) := spr_end hI.out
      go_wp2_with fail
      go_ret2
      exact pickPost_mk hW01 hown HF.out HG.out (hb0.trans (hbel.mono (by omega)))

end Go.Proofs.Qxb6612460aGreatFmt
