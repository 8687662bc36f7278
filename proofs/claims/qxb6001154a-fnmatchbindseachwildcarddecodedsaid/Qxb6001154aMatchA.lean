import Derived.Test.Qxb6001154aKeys
import Derived.Lib.LazyBuf
namespace Go.Proofs.Qxb6001154a
open Go.RowKit

theorem Try.info47 : (Try.prog.info? 47).map (fun i => (i.zero, i.size, i.bytes)) = some (some (.agg #[.slice none 0 0, .int .i64 0, .int .i64 0]), 3, 40) := by kernel_rfl
theorem Try.info50 : (Try.prog.info? 50).map (fun i => (i.zero, i.size, i.bytes)) = some (some (.agg #[.pointer none, .string ByteArray.empty]), 2, 24) := by kernel_rfl

set_option maxRecDepth 100000 in
set_option maxHeartbeats 400000 in
theorem cloneStringsC (a : Option Addr) (cap : Nat) (ss : List ByteArray) (w : World) (hr : RowAt w a (ss.map Value.string)) (hl : ss.length ≤ 65536) :
    Calls Try.prog 22 #[.slice a ss.length cap] w fun e w' => (∃ a' cap', e = .returned (.slice a' ss.length cap') ∧ ss.length ≤ cap' ∧ cap' ≤ 65536 ∧ RowAt w' a' (ss.map Value.string)) ∧ Below w.heap.size w w' := by
  obtain ⟨i0, hi, hz0, hz1, hz2⟩ := info_parts Try.info9
  have heq : ∀ w l c, (binOp .eql 26 (.slice a l c) (.slice none 0 0)).run Try.prog w = .ok (.bool a.isNone) w := fun w l c => Lib.run_eql_slice_nil w 26 9 a l c 0 0 Try.underlying26
  have HR : Hid (RowAt w a (ss.map Value.string)) := hr
  clear hr
  cases a with
  | none =>
    have hn : ss.length = 0 := by
      rcases Nat.eq_zero_or_pos ss.length with h | h
      · exact h
      · obtain ⟨b, off, ha, _⟩ := row_str HR.out 0 h
        cases ha
    obtain rfl : ss = [] := List.eq_nil_of_length_eq_zero hn
    go_enter Try.func22, Try.ntmps22
    go_wp2
    go_ret
    exact ⟨⟨none, 0, rfl, Nat.le_refl _, Nat.zero_le _, fun k x hx => by simp at hx⟩, Below.refl _ _⟩
  | some ad =>
    go_enter Try.func22, Try.ntmps22
    go_wp2_with (at_make; refine wpList_make_full _ rfl _ _ 26 rfl w.heap.size 9 i0 (.string ByteArray.empty) 1 Try.underlying26 hi hz0 hz1 .i64 .i64 _ _ ss.length rfl rfl rfl rfl (by rw [hz2]; omega) (by unfold maxLen; omega) (Nat.le_refl _) ?_; intro w1 hown hgrow)
    go_loopw [4] (fun i wr => ∃ (k : Nat) (xs : List Value), k ≤ ss.length ∧ i = .int .i64 k ∧ wr.ownsRow w.heap.size 9 1 (.slice (some ⟨w.heap.size, 0, none⟩) ss.length ss.length) ss.length xs ∧ Hid (xs.take k = (ss.map Value.string).take k) ∧ Below w.heap.size w wr) (fun i _ => ss.length - (intOf i).toNat)
    case atStart => exact ⟨0, _, Nat.zero_le _, rfl, hown, rfl, (Below.refl _ _).grown hgrow (Nat.le_refl _) (fun k h => by cases h)⟩
    case round =>
      obtain ⟨k, xs, hk, rfl, hown', hx, hbel⟩ := hrel
      by_cases hlt : k < ss.length
      · obtain ⟨b, off, ha, hc0⟩ := row_str HR.out k hlt
        cases ha
        have hbl := cell_lt hc0
        have hcell : wr.cell? ⟨b, off + k, none⟩ = some (.string ss[k]) := (hbel.cell hbl).trans hc0
        have hxl : xs.length = ss.length := by have := hown'.1; omega
        obtain ⟨y, hck⟩ : ∃ y, wr.cell? ⟨w.heap.size, k, none⟩ = some y := ⟨_, (hown'.cellAt k (by omega)).trans (List.getElem?_eq_getElem (by omega))⟩
        have hfz := hown'.frozenAt k
        have HST : Hid (_ ∧ _) := hown'.stored k (.string ss[k])
        have HX : Hid (_ = _) := set_take (xs := ss.map Value.string) (ys := xs) k (by simp; exact hlt) (by simp; exact hxl) hx.out
        have HB : Hid (Below w.heap.size w (wr.setCell ⟨w.heap.size, k, none⟩ (.string ss[k]))) := hbel.setCell (Nat.le_refl _) _
        clear hc0 hxl
        go_wp2
        go_roundw
        case rel => exact ⟨k + 1, _, by omega, by go_num, HST.out.1, by have h1 := HX.out; simp only [List.getElem_map] at h1; exact h1, HB.out⟩
        case measure => simp [intOf]; omega
      · have hxl : xs.length = ss.length := by have := hown'.1; omega
        have HE : Hid (xs = ss.map Value.string) := by
          have h1 := hx.out
          rwa [List.take_of_length_le (by omega), List.take_of_length_le (by simp; omega)] at h1
        go_wp2
        go_ret
        exact ⟨⟨_, _, rfl, Nat.le_refl _, hl, by rw [← HE.out]; exact row_of_owns hown'⟩, hbel⟩


set_option maxRecDepth 100000 in
set_option maxHeartbeats 1000000 in
theorem zzBytesBinds (n : Int) (a2 : Option Addr) (c2 : Nat) (ss : List ByteArray) (w : World)
    (hr : RowAt w a2 (ss.map Value.string)) (h2 : ss.length ≤ 140737488355328)
    (hz : ∀ s ∈ ss, s.size ≤ 140737488355328) :
    Calls Try.prog 26 #[.int .i64 n, .slice a2 ss.length c2] w fun e w' => SomeBool e ∧ w = w' := by
  have HR : Hid (RowAt w a2 (ss.map Value.string)) := hr
  have HZ : Hid (∀ s ∈ ss, s.size ≤ 140737488355328) := hz
  clear hr hz
  by_cases b2 : 1048576 < ss.length
  · go_enter Try.func26, Try.ntmps26
    go_wp2
    go_ret
    exact ⟨⟨_, rfl⟩, rfl⟩
  go_enter Try.func26, Try.ntmps26
  go_wp2
  go_loop [5, 6] (fun t i => ∃ k n : Nat, k ≤ ss.length ∧ i = .int .i64 k ∧ t = .int .i64 n ∧ n ≤ 1048576) (fun _ i => ss.length - (intOf i).toNat)
  case atStart => exact ⟨0, ss.length, Nat.zero_le _, rfl, by go_num, by omega⟩
  case round =>
    obtain ⟨k, n, hk, rfl, rfl, hn⟩ := hrel
    by_cases hlt : k < ss.length
    · obtain ⟨b, off, ha, hcell⟩ := row_str HR.out k hlt
      subst ha
      have hzk := HZ.out ss[k] (List.getElem_mem hlt)
      generalize ss[k] = x at *
      by_cases g1 : 1048576 < x.size
      · go_wp2
        go_ret
        exact ⟨⟨_, rfl⟩, rfl⟩
      by_cases g2 : 1048576 < n + x.size
      · go_wp2
        go_ret
        exact ⟨⟨_, rfl⟩, rfl⟩
      go_wp2
      go_round
      case rel => exact ⟨k + 1, n + x.size, by omega, by go_num, by go_num, by omega⟩
      case measure => simp [intOf]; omega
    · go_wp2
      go_ret
      exact ⟨⟨_, rfl⟩, rfl⟩

/-- strings.Join of one string. -/
theorem join1 (b off cap : Nat) (s sep : ByteArray) (w : World) (hc : w.cell? ⟨b, off, none⟩ = some (.string s)) :
    Calls Try.prog 42 #[.slice (some ⟨b, off, none⟩) 1 cap, .string sep] w fun e w' => e = .returned (.string s) ∧ w = w' := by
  go_enter Try.func42, Try.ntmps42
  go_wp2
  go_ret
  exact ⟨rfl, rfl⟩

/-- The export of a path's making. -/
theorem zzPath (a : Option Addr) (n cap : Nat) (s : ByteArray) (w : World) :
    Calls Try.prog 24 #[.slice a n cap, .string s, .slice none 0 0] w fun e w' => e = .returned (.agg #[.slice a n cap, .string s, .slice none 0 0]) ∧ Below w.heap.size w w' := by
  go_enter Try.func24, Try.ntmps24
  go_wp2
  refine bodyPost_ret (v := .agg #[.slice a n cap, .string s, .slice none 0 0]) (by simp [results, Try.results24, go_sem]) rfl ⟨rfl, (Below.refl _ _).alloc (Nat.le_refl _) _⟩

end Go.Proofs.Qxb6001154a
