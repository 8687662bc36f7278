import Derived.Test.Qxb6001154aStrs
import Derived.Lib.LazyBuf
namespace Go.Proofs.Qxb6001154a
open Go.RowKit

theorem Try.info9 : (Try.prog.info? 9).map (fun i => (i.zero, i.size, i.bytes)) = some (some (.string ByteArray.empty), 1, 16) := by kernel_rfl
theorem Try.info5 : (Try.prog.info? 5).map (fun i => (i.zero, i.size, i.bytes)) = some (some (.int .u8 0), 1, 1) := by kernel_rfl

theorem row_of_owns {w : World} {base : Nat} {e : TypeId} {g n cap : Nat} {xs : List Value} (h : w.ownsRow base e 1 (.slice (some ⟨g, 0, none⟩) n cap) n xs) : RowAt w (some ⟨g, 0, none⟩) xs := by
  intro k x hx
  refine ⟨g, 0, rfl, ?_⟩
  have hk : k < n * 1 := by
    have := h.1
    rcases Nat.lt_or_ge k xs.length with h1 | h1
    · omega
    · rw [List.getElem?_eq_none h1] at hx; cases hx
  rw [Nat.zero_add, h.cellAt k hk]
  exact hx

theorem set_take {xs ys : List Value} (k : Nat) (hk : k < xs.length) (hl : ys.length = xs.length) (h : ys.take k = xs.take k) : (ys.set k xs[k]).take (k + 1) = xs.take (k + 1) := by
  rw [List.take_succ_eq_append_getElem hk, List.take_succ_eq_append_getElem (by simp; omega), List.take_set_of_le (by omega), h]
  simp

set_option maxRecDepth 100000 in
set_option maxHeartbeats 400000 in
theorem cloneStrings (a : Option Addr) (cap : Nat) (ss : List ByteArray) (w : World) (hr : RowAt w a (ss.map Value.string)) (hl : ss.length ≤ 65536) :
    Calls Try.prog 22 #[.slice a ss.length cap] w fun e w' => (∃ a' cap', e = .returned (.slice a' ss.length cap') ∧ RowAt w' a' (ss.map Value.string)) ∧ Below w.heap.size w w' := by
  obtain ⟨i0, hi, hz0, hz1, hz2⟩ := info_parts Try.info9
  have heq : ∀ w l c, (binOp .eql 26 (.slice a l c) (.slice none 0 0)).run Try.prog w = .ok (.bool a.isNone) w := fun w l c => Lib.run_eql_slice_nil w 26 9 a l c 0 0 Try.underlying26
  have HR : Hid (RowAt w a (ss.map Value.string)) := hr
  clear hr
  cases a with
  | none =>
    have hn : ss.length = 0 := by
      rcases Nat.eq_zero_or_pos ss.length with h | h
      · exact h
      · obtain ⟨b, off, ha, _⟩ := row_str HR.out 0 h
        cases ha
    obtain rfl : ss = [] := List.eq_nil_of_length_eq_zero hn
    go_enter Try.func22, Try.ntmps22
    go_wp2
    go_ret
    exact ⟨⟨none, 0, rfl, fun k x hx => by simp at hx⟩, Below.refl _ _⟩
  | some ad =>
    go_enter Try.func22, Try.ntmps22
    go_wp2_with (at_make; refine wpList_make_full _ rfl _ _ 26 rfl w.heap.size 9 i0 (.string ByteArray.empty) 1 Try.underlying26 hi hz0 hz1 .i64 .i64 _ _ ss.length rfl rfl rfl rfl (by rw [hz2]; omega) (by unfold maxLen; omega) (Nat.le_refl _) ?_; intro w1 hown hgrow)
    go_loopw [4] (fun i wr => ∃ (k : Nat) (xs : List Value), k ≤ ss.length ∧ i = .int .i64 k ∧ wr.ownsRow w.heap.size 9 1 (.slice (some ⟨w.heap.size, 0, none⟩) ss.length ss.length) ss.length xs ∧ Hid (xs.take k = (ss.map Value.string).take k) ∧ Below w.heap.size w wr) (fun i _ => ss.length - (intOf i).toNat)
    case atStart => exact ⟨0, _, Nat.zero_le _, rfl, hown, rfl, (Below.refl _ _).grown hgrow (Nat.le_refl _) (fun k h => by cases h)⟩
    case round =>
      obtain ⟨k, xs, hk, rfl, hown', hx, hbel⟩ := hrel
      by_cases hlt : k < ss.length
      · obtain ⟨b, off, ha, hc0⟩ := row_str HR.out k hlt
        cases ha
        have hbl := cell_lt hc0
        have hcell : wr.cell? ⟨b, off + k, none⟩ = some (.string ss[k]) := (hbel.cell hbl).trans hc0
        have hxl : xs.length = ss.length := by have := hown'.1; omega
        obtain ⟨y, hck⟩ : ∃ y, wr.cell? ⟨w.heap.size, k, none⟩ = some y := ⟨_, (hown'.cellAt k (by omega)).trans (List.getElem?_eq_getElem (by omega))⟩
        have hfz := hown'.frozenAt k
        have HST : Hid (_ ∧ _) := hown'.stored k (.string ss[k])
        have HX : Hid (_ = _) := set_take (xs := ss.map Value.string) (ys := xs) k (by simp; exact hlt) (by simp; exact hxl) hx.out
        have HB : Hid (Below w.heap.size w (wr.setCell ⟨w.heap.size, k, none⟩ (.string ss[k]))) := hbel.setCell (Nat.le_refl _) _
        clear hc0 hxl
        go_wp2
        go_roundw
        case rel => exact ⟨k + 1, _, by omega, by go_num, HST.out.1, by have h1 := HX.out; simp only [List.getElem_map] at h1; exact h1, HB.out⟩
        case measure => simp [intOf]; omega
      · have hxl : xs.length = ss.length := by have := hown'.1; omega
        have HE : Hid (xs = ss.map Value.string) := by
          have h1 := hx.out
          rwa [List.take_of_length_le (by omega), List.take_of_length_le (by simp; omega)] at h1
        go_wp2
        go_ret
        exact ⟨⟨_, _, rfl, by rw [← HE.out]; exact row_of_owns hown'⟩, hbel⟩

theorem row_u8 {w : World} {a : Option Addr} {ss : List Int} (h : RowAt w a (ss.map (Value.int .u8))) (k : Nat) (hk : k < ss.length) :
    ∃ b off, a = some ⟨b, off, none⟩ ∧ w.cell? ⟨b, off + k, none⟩ = some (.int .u8 ss[k]) :=
  h k _ (by simp [List.getElem?_eq_getElem hk])

set_option maxRecDepth 100000 in
set_option maxHeartbeats 400000 in
theorem cloneKinds (a : Option Addr) (cap : Nat) (ss : List Int) (w : World) (hr : RowAt w a (ss.map (Value.int .u8))) (hl : ss.length ≤ 65536) :
    Calls Try.prog 30 #[.slice a ss.length cap] w fun e w' => (∃ a' cap', e = .returned (.slice a' ss.length cap') ∧ RowAt w' a' (ss.map (Value.int .u8))) ∧ Below w.heap.size w w' := by
  obtain ⟨i0, hi, hz0, hz1, hz2⟩ := info_parts Try.info5
  have heq : ∀ w l c, (binOp .eql 53 (.slice a l c) (.slice none 0 0)).run Try.prog w = .ok (.bool a.isNone) w := fun w l c => Lib.run_eql_slice_nil w 53 5 a l c 0 0 Try.underlying53
  have HR : Hid (RowAt w a (ss.map (Value.int .u8))) := hr
  clear hr
  cases a with
  | none =>
    have hn : ss.length = 0 := by
      rcases Nat.eq_zero_or_pos ss.length with h | h
      · exact h
      · obtain ⟨b, off, ha, _⟩ := row_u8 HR.out 0 h
        cases ha
    obtain rfl : ss = [] := List.eq_nil_of_length_eq_zero hn
    go_enter Try.func30, Try.ntmps30
    go_wp2
    go_ret
    exact ⟨⟨none, 0, rfl, fun k x hx => by simp at hx⟩, Below.refl _ _⟩
  | some ad =>
    go_enter Try.func30, Try.ntmps30
    go_wp2_with (at_make; refine wpList_make_full _ rfl _ _ 53 rfl w.heap.size 5 i0 (.int .u8 0) 1 Try.underlying53 hi hz0 hz1 .i64 .i64 _ _ ss.length rfl rfl rfl rfl (by rw [hz2]; omega) (by unfold maxLen; omega) (Nat.le_refl _) ?_; intro w1 hown hgrow)
    go_loopw [4] (fun i wr => ∃ (k : Nat) (xs : List Value), k ≤ ss.length ∧ i = .int .i64 k ∧ wr.ownsRow w.heap.size 5 1 (.slice (some ⟨w.heap.size, 0, none⟩) ss.length ss.length) ss.length xs ∧ Hid (xs.take k = (ss.map (Value.int .u8)).take k) ∧ Below w.heap.size w wr) (fun i _ => ss.length - (intOf i).toNat)
    case atStart => exact ⟨0, _, Nat.zero_le _, rfl, hown, rfl, (Below.refl _ _).grown hgrow (Nat.le_refl _) (fun k h => by cases h)⟩
    case round =>
      obtain ⟨k, xs, hk, rfl, hown', hx, hbel⟩ := hrel
      by_cases hlt : k < ss.length
      · obtain ⟨b, off, ha, hc0⟩ := row_u8 HR.out k hlt
        cases ha
        have hbl := cell_lt hc0
        have hcell : wr.cell? ⟨b, off + k, none⟩ = some (.int .u8 ss[k]) := (hbel.cell hbl).trans hc0
        have hxl : xs.length = ss.length := by have := hown'.1; omega
        obtain ⟨y, hck⟩ : ∃ y, wr.cell? ⟨w.heap.size, k, none⟩ = some y := ⟨_, (hown'.cellAt k (by omega)).trans (List.getElem?_eq_getElem (by omega))⟩
        have hfz := hown'.frozenAt k
        have HST : Hid (_ ∧ _) := hown'.stored k (.int .u8 ss[k])
        have HX : Hid (_ = _) := set_take (xs := ss.map (Value.int .u8)) (ys := xs) k (by simp; exact hlt) (by simp; exact hxl) hx.out
        have HB : Hid (Below w.heap.size w (wr.setCell ⟨w.heap.size, k, none⟩ (.int .u8 ss[k]))) := hbel.setCell (Nat.le_refl _) _
        clear hc0 hxl
        go_wp2
        go_roundw
        case rel => exact ⟨k + 1, _, by omega, by go_num, HST.out.1, by have h1 := HX.out; simp only [List.getElem_map] at h1; exact h1, HB.out⟩
        case measure => simp [intOf]; omega
      · have hxl : xs.length = ss.length := by have := hown'.1; omega
        have HE : Hid (xs = ss.map (Value.int .u8)) := by
          have h1 := hx.out
          rwa [List.take_of_length_le (by omega), List.take_of_length_le (by simp; omega)] at h1
        go_wp2
        go_ret
        exact ⟨⟨_, _, rfl, by rw [← HE.out]; exact row_of_owns hown'⟩, hbel⟩

end Go.Proofs.Qxb6001154a
