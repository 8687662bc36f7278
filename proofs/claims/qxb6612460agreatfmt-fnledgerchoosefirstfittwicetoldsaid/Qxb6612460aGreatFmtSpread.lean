import Derived.Test.Qxb6612460aGreatFmtSpreadP
namespace Go.Proofs.Qxb6612460aGreatFmt
open Go.RowKit

theorem Tryz.info3 : (Tryz.prog.info? 3).map (fun i => (i.zero, i.size, i.bytes)) = some (some (.int .i64 0), 1, 8) := by kernel_rfl

theorem own_cell {w : World} {B g n cap : Nat} {xs : List Nat} (h : w.ownsRow B 3 1 (.slice (some ⟨g, 0, none⟩) n cap) n (xs.map natV)) (i : Nat) (hi : i < n) : w.cell? ⟨g, i, none⟩ = some (.int .i64 (xs[i]?.getD 0 : Nat)) := by
  have hl := h.1
  rw [List.length_map] at hl
  rw [h.cellAt i (by omega), List.getElem?_map, List.getElem?_eq_getElem (by omega)]
  simp [natV]
theorem own_set {w : World} {B g n cap : Nat} {xs : List Nat} (h : w.ownsRow B 3 1 (.slice (some ⟨g, 0, none⟩) n cap) n (xs.map natV)) (i v : Nat) : (w.setCell ⟨g, i, none⟩ (.int .i64 (v : Int))).ownsRow B 3 1 (.slice (some ⟨g, 0, none⟩) n cap) n ((xs.set i v).map natV) := by
  have := (h.stored i (natV v)).1
  rw [← List.map_set] at this
  exact this

def SpreadPost (w : World) (fr : List Nat) (k : Nat) (e : Ending) (w' : World) : Prop :=
  (∃ (g : Nat) (xs : List Nat), e = .returned (.slice (some ⟨g, 0, none⟩) fr.length fr.length) ∧ w'.ownsRow w.heap.size 3 1 (.slice (some ⟨g, 0, none⟩) fr.length fr.length) fr.length (xs.map natV) ∧ Given fr xs k) ∧ Below w.heap.size w w'
theorem spreadPost_mk {w w' : World} {fr xs : List Nat} {g k : Nat} (h1 : w'.ownsRow w.heap.size 3 1 (.slice (some ⟨g, 0, none⟩) fr.length fr.length) fr.length (xs.map natV)) (h2 : Given fr xs k) (h3 : Below w.heap.size w w') : SpreadPost w fr k (.returned (.slice (some ⟨g, 0, none⟩) fr.length fr.length)) w' :=
  ⟨⟨g, xs, rfl, h1, h2⟩, h3⟩

set_option maxRecDepth 100000 in
set_option maxHeartbeats 2000000 in
theorem spread (b k : Nat) (fr : List Nat) (w : World) (hF : FreeAt w b fr) (hl : fr.length ≤ 65536) (hx : ∀ x ∈ fr, x ≤ 65536) (hk1 : 1 ≤ k) (hk2 : k ≤ 65536) (hk : k ≤ sumN fr) :
    Calls Tryz.prog 58 #[.pointer (some ⟨b, 0, none⟩), .int .i64 k] w (SpreadPost w fr k) := by
  obtain ⟨i0, hi, hz0, hz1, hz2⟩ := info_parts Tryz.info3
  have HF : Hid (FreeAt w b fr) := hF
  obtain ⟨a, cap, h13, hr⟩ := hF
  have HR : Hid (RowAt w a (fr.map natV)) := hr
  have HX : Hid (∀ i : Nat, fr[i]?.getD 0 ≤ 65536) := fun i => by
    by_cases h : i < fr.length
    · rw [List.getElem?_eq_getElem h]; exact hx _ (List.getElem_mem h)
    · rw [List.getElem?_eq_none (by omega)]; simp
  have hb13 := cell_lt h13
  simp only at hb13
  clear hr hx
  go_enter Tryz.func58, Tryz.ntmps58
  go_wp2_with (at_make; go_must (refine wpList_make_full _ rfl _ _ 23 rfl w.heap.size 3 i0 (.int .i64 0) 1 Tryz.underlying23 hi hz0 hz1 .i64 .i64 _ _ fr.length rfl rfl rfl rfl (by rw [hz2]; omega) (by unfold maxLen; omega) (Nat.le_refl _) ?_); intro w1 hown1 hgrow1)
  have O1 : Hid (w1.ownsRow w.heap.size 3 1 (.slice (some ⟨w.heap.size, 0, none⟩) fr.length fr.length) fr.length ((List.replicate fr.length 0).map natV)) := by
    have e : (madeCells (Value.int .i64 0).cells (fr.length * 1)).toList = (List.replicate fr.length 0).map natV := by
      rw [Nat.mul_one, List.map_replicate]
      exact toList_madeCells_one _ _
    rw [← e]; exact hown1
  have B1 : Hid (Below w.heap.size w w1) := (Below.refl _ _).grown hgrow1 (Nat.le_refl _) (fun k h => by cases h)
  clear hown1 hgrow1
  go_loopw [1] (fun kv wr => ∃ (kk : Nat) (xs : List Nat), kv = .int .i64 kk ∧ kk ≤ k ∧ wr.ownsRow w.heap.size 3 1 (.slice (some ⟨w.heap.size, 0, none⟩) fr.length fr.length) fr.length (xs.map natV) ∧ Hid (Takes fr xs k kk) ∧ Below w.heap.size w wr) (fun kv _ => (intOf kv).toNat)
  case atStart => exact ⟨k, _, rfl, Nat.le_refl _, O1.out, takes_start fr k, B1.out⟩
  case round =>
    clear O1 B1
    obtain ⟨kk, xs, rfl, hkk, hown, hT, hbel⟩ := hrel
    have hbs := hbel.size
    have c13 : wr.cell? ⟨b, 13, none⟩ = some (.slice a fr.length cap) := (hbel.cell (p := ⟨b, 13, none⟩) hb13).trans h13
    by_cases hk0 : kk = 0
    · have EX : Hid (kk = 0 ∨ ∃ i : Nat, i < fr.length ∧ xs[i]?.getD 0 = 0 ∧ kk ≤ fr[i]?.getD 0) := .inl hk0
      have hk00 : decide (0 < kk) = false := by simp; omega
      clear hk0
      go_wp2_with fail
      go_loop [89] (fun iv => ∃ j : Nat, j ≤ fr.length ∧ iv = .int .i64 j ∧ Hid (∀ i : Nat, i < j → ¬ (xs[i]?.getD 0 = 0 ∧ kk ≤ fr[i]?.getD 0))) (fun iv => fr.length - (intOf iv).toNat)
      case atStart => exact ⟨0, Nat.zero_le _, rfl, fun i hi => by omega⟩
      case round =>
        obtain ⟨j, hj, rfl, hno⟩ := hrel
        by_cases hjl : j < fr.length
        · obtain ⟨g, off, ha, hc0⟩ := row_nat HR.out j hjl
          cases ha
          have hgg := cell_lt hc0
          simp only at hgg
          have hcf : wr.cell? ⟨g, off + j, none⟩ = some (.int .i64 (fr[j]?.getD 0 : Nat)) := by
            rw [hbel.cell (p := ⟨g, off + j, none⟩) hgg, hc0, List.getElem?_eq_getElem hjl]; rfl
          have hcx := own_cell hown j hjl
          have hfz := hown.frozenAt j
          have HS : Hid _ := own_set hown j kk
          have hxj := HX.out j
          clear hc0
          by_cases h0 : xs[j]?.getD 0 = 0
          · by_cases hle : kk ≤ fr[j]?.getD 0
            · have HG : Hid (Given fr (xs.set j kk) k) := given_last hT.out hjl h0 hle
              have HBS : Hid (Below w.heap.size w (wr.setCell ⟨w.heap.size, j, none⟩ (.int .i64 ((kk : Nat) : Int)))) := hbel.setCell (Nat.le_refl _) _
              have hge : decide (kk ≤ fr[j]?.getD 0) = true := by simp; omega
              generalize fr[j]?.getD 0 = f at *
              generalize xs[j]?.getD 0 = x at *
              subst h0
              go_wp2_with fail
              go_ret
              exact spreadPost_mk HS.out HG.out HBS.out
            · have HN : Hid (∀ i : Nat, i < j + 1 → ¬ (xs[i]?.getD 0 = 0 ∧ kk ≤ fr[i]?.getD 0)) := fun i hi => by
                rcases Nat.lt_or_ge i j with h | h
                · exact hno.out i h
                · obtain rfl : i = j := by omega
                  exact fun h' => hle h'.2
              have hge : decide (kk ≤ fr[j]?.getD 0) = false := by simp; omega
              generalize fr[j]?.getD 0 = f at *
              generalize xs[j]?.getD 0 = x at *
              subst h0
              go_wp2_with fail
              go_round
              case rel => exact ⟨j + 1, by omega, by go_num, HN.out⟩
              case measure => simp [intOf]; omega
          · have HN : Hid (∀ i : Nat, i < j + 1 → ¬ (xs[i]?.getD 0 = 0 ∧ kk ≤ fr[i]?.getD 0)) := fun i hi => by
              rcases Nat.lt_or_ge i j with h | h
              · exact hno.out i h
              · obtain rfl : i = j := by omega
                exact fun h' => h0 h'.1
            generalize fr[j]?.getD 0 = f at *
            generalize xs[j]?.getD 0 = x at *
            have hx0 : ((x : Int) == 0) = false := by simp; omega
            go_wp2_with fail
            go_round
            case rel => exact ⟨j + 1, by omega, by go_num, HN.out⟩
            case measure => simp [intOf]; omega
        · have hkz : kk = 0 := by
            rcases EX.out with h | ⟨i, hi, h1, h2⟩
            · exact h
            · exact absurd ⟨h1, h2⟩ (hno.out i (by omega))
          have HG : Hid (Given fr xs k) := given_zero (hkz ▸ hT.out)
          clear hkz
          go_wp2_with fail
          go_ret
          exact spreadPost_mk hown HG.out hbel
    · have hk00 : decide (0 < kk) = true := by simp; omega
      go_wp2_with fail
      go_loop [6, 24] (fun mv iv => ∃ (j : Nat) (r : Int), j ≤ fr.length ∧ iv = .int .i64 j ∧ mv = .int .i64 r ∧ Hid ((r = -1 ∧ ∀ i : Nat, i < j → ¬ (xs[i]?.getD 0 = 0 ∧ 0 < fr[i]?.getD 0)) ∨ ∃ i : Nat, i < j ∧ r = i ∧ xs[i]?.getD 0 = 0 ∧ 0 < fr[i]?.getD 0)) (fun _ iv => fr.length - (intOf iv).toNat)
      case atStart => exact ⟨0, -1, Nat.zero_le _, rfl, rfl, .inl ⟨rfl, fun i hi => by omega⟩⟩
      case round =>
        obtain ⟨j, r, hj, rfl, rfl, hm⟩ := hrel
        by_cases hjl : j < fr.length
        · obtain ⟨g, off, ha, hc0⟩ := row_nat HR.out j hjl
          cases ha
          have hgg := cell_lt hc0
          simp only at hgg
          have hcf : wr.cell? ⟨g, off + j, none⟩ = some (.int .i64 (fr[j]?.getD 0 : Nat)) := by
            rw [hbel.cell (p := ⟨g, off + j, none⟩) hgg, hc0, List.getElem?_eq_getElem hjl]; rfl
          have hcx := own_cell hown j hjl
          have hxj := HX.out j
          clear hc0
          by_cases hgo : xs[j]?.getD 0 = 0 ∧ 0 < fr[j]?.getD 0
          · have HY : Hid ((((j : Nat) : Int) = -1 ∧ ∀ i : Nat, i < j + 1 → ¬ (xs[i]?.getD 0 = 0 ∧ 0 < fr[i]?.getD 0)) ∨ ∃ i : Nat, i < j + 1 ∧ ((j : Nat) : Int) = i ∧ xs[i]?.getD 0 = 0 ∧ 0 < fr[i]?.getD 0) := .inr ⟨j, by omega, rfl, hgo.1, hgo.2⟩
            obtain ⟨h0, hpos⟩ := hgo
            rcases hm.out with ⟨hr, -⟩ | ⟨i, hij, hr, -, -⟩
            · subst hr
              have hp : decide (0 < fr[j]?.getD 0) = true := by simp; omega
              generalize fr[j]?.getD 0 = f at *
              generalize xs[j]?.getD 0 = x at *
              subst h0
              go_wp2_with fail
              go_round
              case rel => exact ⟨j + 1, _, by omega, by go_num, rfl, HY.out⟩
              case measure => simp [intOf]; omega
            · subst hr
              obtain ⟨g', off', ha', hc0'⟩ := row_nat HR.out i (by omega)
              obtain ⟨rfl, rfl⟩ : g = g' ∧ off = off' := by simpa using ha'
              have hcf' : wr.cell? ⟨g, off + i, none⟩ = some (.int .i64 (fr[i]?.getD 0 : Nat)) := by
                rw [hbel.cell (p := ⟨g, off + i, none⟩) hgg, hc0', List.getElem?_eq_getElem (by omega)]; rfl
              have hxi := HX.out i
              have HYi : Hid ((((i : Nat) : Int) = -1 ∧ ∀ l : Nat, l < j + 1 → ¬ (xs[l]?.getD 0 = 0 ∧ 0 < fr[l]?.getD 0)) ∨ ∃ l : Nat, l < j + 1 ∧ ((i : Nat) : Int) = l ∧ xs[l]?.getD 0 = 0 ∧ 0 < fr[l]?.getD 0) := by
                rcases hm.out with ⟨h, -⟩ | ⟨l, h1, h2, h3, h4⟩
                · omega
                · exact .inr ⟨l, by omega, h2, h3, h4⟩
              clear hc0' ha'
              have hp : decide (0 < fr[j]?.getD 0) = true := by simp; omega
              have hilt : i < fr.length := by omega
              by_cases hlt : fr[i]?.getD 0 < fr[j]?.getD 0
              · have hp2 : decide (fr[i]?.getD 0 < fr[j]?.getD 0) = true := by simp; omega
                generalize fr[j]?.getD 0 = f at *
                generalize xs[j]?.getD 0 = x at *
                generalize fr[i]?.getD 0 = f2 at *
                subst h0
                go_wp2_with fail
                go_round
                case rel => exact ⟨j + 1, _, by omega, by go_num, rfl, HY.out⟩
                case measure => simp [intOf]; omega
              · have hp2 : decide (fr[i]?.getD 0 < fr[j]?.getD 0) = false := by simp; omega
                generalize fr[j]?.getD 0 = f at *
                generalize xs[j]?.getD 0 = x at *
                generalize fr[i]?.getD 0 = f2 at *
                subst h0
                go_wp2_with fail
                go_round
                case rel => exact ⟨j + 1, _, by omega, by go_num, rfl, HYi.out⟩
                case measure => simp [intOf]; omega
          · have HY : Hid ((r = -1 ∧ ∀ i : Nat, i < j + 1 → ¬ (xs[i]?.getD 0 = 0 ∧ 0 < fr[i]?.getD 0)) ∨ ∃ i : Nat, i < j + 1 ∧ r = i ∧ xs[i]?.getD 0 = 0 ∧ 0 < fr[i]?.getD 0) := by
              rcases hm.out with ⟨h1, h2⟩ | ⟨i, h1, h2, h3⟩
              · refine .inl ⟨h1, fun i hi => ?_⟩
                rcases Nat.lt_or_ge i j with h | h
                · exact h2 i h
                · obtain rfl : i = j := by omega
                  exact hgo
              · exact .inr ⟨i, by omega, h2, h3⟩
            clear hm
            by_cases h0 : xs[j]?.getD 0 = 0
            · have hp : decide (0 < fr[j]?.getD 0) = false := by
                have : ¬ 0 < fr[j]?.getD 0 := fun h => hgo ⟨h0, h⟩
                simp; omega
              clear hgo
              generalize fr[j]?.getD 0 = f at *
              generalize xs[j]?.getD 0 = x at *
              subst h0
              go_wp2_with fail
              go_round
              case rel => exact ⟨j + 1, r, by omega, by go_num, rfl, HY.out⟩
              case measure => simp [intOf]; omega
            · clear hgo
              generalize fr[j]?.getD 0 = f at *
              generalize xs[j]?.getD 0 = x at *
              have hx0 : ((x : Int) == 0) = false := by simp; omega
              go_wp2_with fail
              go_round
              case rel => exact ⟨j + 1, r, by omega, by go_num, rfl, HY.out⟩
              case measure => simp [intOf]; omega
        · obtain rfl : j = fr.length := by omega
          rcases hm.out with ⟨-, h2⟩ | ⟨i, hil, rfl, h0, hpos⟩
          · exact absurd (takes_none hT.out hk h2) hk0
          clear hm
          obtain ⟨g, off, ha, hc0⟩ := row_nat HR.out i hil
          cases ha
          have hgg := cell_lt hc0
          simp only at hgg
          have hcf : wr.cell? ⟨g, off + i, none⟩ = some (.int .i64 (fr[i]?.getD 0 : Nat)) := by
            rw [hbel.cell (p := ⟨g, off + i, none⟩) hgg, hc0, List.getElem?_eq_getElem hil]; rfl
          have hxi := HX.out i
          clear hc0
          by_cases hbr : kk ≤ fr[i]?.getD 0
          · have EX : Hid (kk = 0 ∨ ∃ i : Nat, i < fr.length ∧ xs[i]?.getD 0 = 0 ∧ kk ≤ fr[i]?.getD 0) := .inr ⟨i, hil, h0, hbr⟩
            have hge : decide (kk ≤ fr[i]?.getD 0) = true := by simp; omega
            generalize fr[i]?.getD 0 = f at hcf hge
            clear hxi hpos hbr h0
            go_wp2_with fail
            go_loop [89] (fun iv => ∃ j : Nat, j ≤ fr.length ∧ iv = .int .i64 j ∧ Hid (∀ i : Nat, i < j → ¬ (xs[i]?.getD 0 = 0 ∧ kk ≤ fr[i]?.getD 0))) (fun iv => fr.length - (intOf iv).toNat)
            case atStart => exact ⟨0, Nat.zero_le _, rfl, fun i hi => by omega⟩
            case round =>
              obtain ⟨j, hj, rfl, hno⟩ := hrel
              by_cases hjl : j < fr.length
              · obtain ⟨g, off, ha, hc0⟩ := row_nat HR.out j hjl
                cases ha
                have hgg := cell_lt hc0
                simp only at hgg
                have hcf : wr.cell? ⟨g, off + j, none⟩ = some (.int .i64 (fr[j]?.getD 0 : Nat)) := by
                  rw [hbel.cell (p := ⟨g, off + j, none⟩) hgg, hc0, List.getElem?_eq_getElem hjl]; rfl
                have hcx := own_cell hown j hjl
                have hfz := hown.frozenAt j
                have HS : Hid _ := own_set hown j kk
                have hxj := HX.out j
                clear hc0
                by_cases h0 : xs[j]?.getD 0 = 0
                · by_cases hle : kk ≤ fr[j]?.getD 0
                  · have HG : Hid (Given fr (xs.set j kk) k) := given_last hT.out hjl h0 hle
                    have HBS : Hid (Below w.heap.size w (wr.setCell ⟨w.heap.size, j, none⟩ (.int .i64 ((kk : Nat) : Int)))) := hbel.setCell (Nat.le_refl _) _
                    have hge : decide (kk ≤ fr[j]?.getD 0) = true := by simp; omega
                    generalize fr[j]?.getD 0 = f at *
                    generalize xs[j]?.getD 0 = x at *
                    subst h0
                    go_wp2_with fail
                    go_ret
                    exact spreadPost_mk HS.out HG.out HBS.out
                  · have HN : Hid (∀ i : Nat, i < j + 1 → ¬ (xs[i]?.getD 0 = 0 ∧ kk ≤ fr[i]?.getD 0)) := fun i hi => by
                      rcases Nat.lt_or_ge i j with h | h
                      · exact hno.out i h
                      · obtain rfl : i = j := by omega
                        exact fun h' => hle h'.2
                    have hge : decide (kk ≤ fr[j]?.getD 0) = false := by simp; omega
                    generalize fr[j]?.getD 0 = f at *
                    generalize xs[j]?.getD 0 = x at *
                    subst h0
                    go_wp2_with fail
                    go_round
                    case rel => exact ⟨j + 1, by omega, by go_num, HN.out⟩
                    case measure => simp [intOf]; omega
                · have HN : Hid (∀ i : Nat, i < j + 1 → ¬ (xs[i]?.getD 0 = 0 ∧ kk ≤ fr[i]?.getD 0)) := fun i hi => by
                    rcases Nat.lt_or_ge i j with h | h
                    · exact hno.out i h
                    · obtain rfl : i = j := by omega
                      exact fun h' => h0 h'.1
                  generalize fr[j]?.getD 0 = f at *
                  generalize xs[j]?.getD 0 = x at *
                  have hx0 : ((x : Int) == 0) = false := by simp; omega
                  go_wp2_with fail
                  go_round
                  case rel => exact ⟨j + 1, by omega, by go_num, HN.out⟩
                  case measure => simp [intOf]; omega
              · have hkz : kk = 0 := by
                  rcases EX.out with h | ⟨i, hi, h1, h2⟩
                  · exact h
                  · exact absurd ⟨h1, h2⟩ (hno.out i (by omega))
                have HG : Hid (Given fr xs k) := given_zero (hkz ▸ hT.out)
                clear hkz
                go_wp2_with fail
                go_ret
                exact spreadPost_mk hown HG.out hbel
          · have hge : decide (kk ≤ fr[i]?.getD 0) = false := by simp; omega
            have hcx := own_cell hown i hil
            have hfz := hown.frozenAt i
            have HT : Hid (Takes fr (xs.set i (fr[i]?.getD 0)) k (kk - fr[i]?.getD 0)) := takes_next hT.out hil h0 (by omega)
            have HS : Hid _ := own_set hown i (fr[i]?.getD 0)
            have hs2 := own_cell HS.out i hil
            rw [List.getElem?_set_self (by rw [hT.out.1]; exact hil)] at hs2
            simp only [Option.getD_some] at hs2
            have HBS : Hid (Below w.heap.size w (wr.setCell ⟨w.heap.size, i, none⟩ (.int .i64 ((fr[i]?.getD 0 : Nat) : Int)))) := hbel.setCell (Nat.le_refl _) _
            generalize fr[i]?.getD 0 = f at *
            go_wp2_with fail
            go_round
            case rel => exact ⟨kk - f, _, by go_num, by omega, HS.out, HT.out, HBS.out⟩
            case measure => simp [intOf]; omega

end Go.Proofs.Qxb6612460aGreatFmt
