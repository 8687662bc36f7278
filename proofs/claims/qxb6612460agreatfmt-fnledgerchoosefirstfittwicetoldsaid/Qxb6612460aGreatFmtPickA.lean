import Derived.Test.Qxb6612460aGreatFmtSmallC
namespace Go.Proofs.Qxb6612460aGreatFmt
open Go.RowKit

def natV (x : Nat) : Value := .int .i64 (x : Int)
theorem row_nat {w : World} {a : Option Addr} {ss : List Nat} (h : RowAt w a (ss.map natV)) (k : Nat) (hk : k < ss.length) :
    ∃ b off, a = some ⟨b, off, none⟩ ∧ w.cell? ⟨b, off + k, none⟩ = some (.int .i64 (ss[k] : Int)) :=
  h k _ (by simp [List.getElem?_eq_getElem hk, natV])

/-- The free GPUs of the islands of the books at b. -/
def FreeAt (w : World) (b : Nat) (fr : List Nat) : Prop := ∃ a cap, w.cell? ⟨b, 13, none⟩ = some (.slice a fr.length cap) ∧ RowAt w a (fr.map natV)
theorem FreeAt.below {w w' : World} {b : Nat} {fr : List Nat} (h : FreeAt w b fr) (hb : Below w.heap.size w w') : FreeAt w' b fr := by
  obtain ⟨a, cap, h1, h2⟩ := h
  exact ⟨a, cap, (hb.cell (cell_lt h1)).trans h1, h2.below hb⟩

set_option maxRecDepth 100000 in
set_option maxHeartbeats 1000000 in
theorem tighter (b i j : Nat) (fr : List Nat) (w : World) (hF : FreeAt w b fr) (hi : i < fr.length) (hj : j < fr.length) :
    Calls Tryz.prog 56 #[.pointer (some ⟨b, 0, none⟩), .int .i64 i, .int .i64 j] w fun e w' => (∃ r, e = .returned (.bool r)) ∧ Below w.heap.size w w' := by
  obtain ⟨a, cap, h13, hr⟩ := hF
  obtain ⟨g, off, rfl, ci⟩ := row_nat hr i hi
  obtain ⟨g', off', e', cj⟩ := row_nat hr j hj
  cases e'
  have HR : Hid _ := hr
  clear hr
  generalize fr[i] = x at *
  generalize fr[j] = y at *
  by_cases hlt : x < y
  · have d1 : decide (x < y) = true := by simp [hlt]
    go_enter Tryz.func56, Tryz.ntmps56
    go_wp2_with fail
    go_quiet (fail)
    go_wp2_with fail
    go_ret
    exact ⟨⟨_, rfl⟩, below_drewN (Below.refl _ _) _⟩
  · have d1 : decide (x < y) = false := by simp; omega
    by_cases heq : x = y
    · subst heq
      go_enter Tryz.func56, Tryz.ntmps56
      go_wp2_with fail
      go_quiet (fail)
      go_wp2_with fail
      go_ret
      exact ⟨⟨_, rfl⟩, below_drewN (Below.refl _ _) _⟩
    · have d2 : ((x : Int) == (y : Int)) = false := by simp; omega
      have d3 : (x == y) = false := by simp [heq]
      go_enter Tryz.func56, Tryz.ntmps56
      go_wp2_with fail
      go_quiet (fail)
      go_wp2_with fail
      go_ret
      exact ⟨⟨_, rfl⟩, below_drewN (Below.refl _ _) _⟩

/-- What tightestIsland answers. -/
def Tight (fr : List Nat) (n k : Nat) (r : Int) : Prop := (r = -1 ∧ ∀ i, i < n → fr[i]?.getD 0 < k) ∨ (∃ i : Nat, i < n ∧ r = i ∧ k ≤ fr[i]?.getD 0)

set_option maxRecDepth 100000 in
set_option maxHeartbeats 1000000 in
theorem tightestIsland (b k : Nat) (fr : List Nat) (w : World) (hF : FreeAt w b fr) (hl : fr.length ≤ 65536) :
    Calls Tryz.prog 57 #[.pointer (some ⟨b, 0, none⟩), .int .i64 k] w fun e w' => (∃ r : Int, e = .returned (.int .i64 r) ∧ Tight fr fr.length k r) ∧ Below w.heap.size w w' := by
  have HF : Hid (FreeAt w b fr) := hF
  obtain ⟨a, cap, h13, hr⟩ := hF
  have HR : Hid (RowAt w a (fr.map natV)) := hr
  have hb13 := cell_lt h13
  simp only at hb13
  clear hr
  go_enter Tryz.func57, Tryz.ntmps57
  go_wp2_with fail
  go_loopw [5, 13] (fun bv i wr => ∃ (j : Nat) (r : Int), j ≤ fr.length ∧ i = .int .i64 j ∧ bv = .int .i64 r ∧ Hid (Tight fr j k r) ∧ Below w.heap.size w wr) (fun _ i _ => fr.length - (intOf i).toNat)
  case atStart => exact ⟨0, -1, Nat.zero_le _, rfl, rfl, .inl ⟨rfl, fun i hi => by omega⟩, Below.refl _ _⟩
  case round =>
    obtain ⟨j, r, hj, rfl, rfl, hT, hbel⟩ := hrel
    have hbs := hbel.size
    by_cases hlt : j < fr.length
    · obtain ⟨g, off, ha, hc0⟩ := row_nat HR.out j hlt
      subst ha
      have hgg := cell_lt hc0
      simp only at hgg
      have hc : wr.cell? ⟨g, off + j, none⟩ = some (.int .i64 (fr[j] : Int)) := (hbel.cell (p := ⟨g, off + j, none⟩) hgg).trans hc0
      have hx : Hid (fr[j]?.getD 0 = fr[j]) := by show _ = _; simp [List.getElem?_eq_getElem hlt]
      generalize fr[j] = x at *
      clear hc0
      by_cases hk : k ≤ x
      · have HN : Hid (Tight fr (j + 1) k (j : Int)) := .inr ⟨j, by omega, rfl, by rw [hx.out]; exact hk⟩
        rcases hT.out with ⟨rfl, hall⟩ | ⟨i, hi, rfl, hki⟩
        · have dk : decide (k ≤ x) = true := by simp [hk]
          go_wp2_with fail
          go_roundw
          case rel => first | exact ⟨j + 1, _, by omega, by go_num, rfl, HN.out, hbel⟩ | ((repeat apply Exists.intro); exact ⟨⟨j + 1, _, by omega, by go_num, rfl, HN.out, hbel⟩, rfl⟩)
          case measure => simp [intOf]; omega
        · have dk : decide (k ≤ x) = true := by simp [hk]
          have HO : Hid (Tight fr (j + 1) k (i : Int)) := .inr ⟨i, by omega, rfl, hki⟩
          go_wp2_with fail
          refine (tighter b j i fr _ (HF.out.below hbel) hlt (by omega)).mono ?_
          rintro e w1 ⟨⟨rb, rfl⟩, hb1⟩
          have hbel1 := hbel.trans (hb1.mono hbs)
          cases rb
          · go_wp2_with fail
            go_roundw
            case rel => first | exact ⟨j + 1, _, by omega, by go_num, rfl, HO.out, hbel1⟩ | ((repeat apply Exists.intro); exact ⟨⟨j + 1, _, by omega, by go_num, rfl, HO.out, hbel1⟩, rfl⟩)
            case measure => simp [intOf]; omega
          · go_wp2_with fail
            go_roundw
            case rel => first | exact ⟨j + 1, _, by omega, by go_num, rfl, HN.out, hbel1⟩ | ((repeat apply Exists.intro); exact ⟨⟨j + 1, _, by omega, by go_num, rfl, HN.out, hbel1⟩, rfl⟩)
            case measure => simp [intOf]; omega
      · have dk : decide (k ≤ x) = false := by simp; omega
        have HO : Hid (Tight fr (j + 1) k r) := by
          rcases hT.out with ⟨h1, hall⟩ | ⟨i, hi, h1, hki⟩
          · refine .inl ⟨h1, fun i hi => ?_⟩
            rcases Nat.lt_or_ge i j with h | h
            · exact hall i h
            · obtain rfl : i = j := by omega
              rw [hx.out]; omega
          · exact .inr ⟨i, by omega, h1, hki⟩
        go_wp2_with fail
        go_roundw
        case rel => first | exact ⟨j + 1, _, by omega, by go_num, rfl, HO.out, hbel⟩ | ((repeat apply Exists.intro); exact ⟨⟨j + 1, _, by omega, by go_num, rfl, HO.out, hbel⟩, rfl⟩)
        case measure => simp [intOf]; omega
    · obtain rfl : j = fr.length := by omega
      go_wp2_with fail
      go_ret
      exact ⟨⟨r, rfl, hT.out⟩, hbel⟩

end Go.Proofs.Qxb6612460aGreatFmt
