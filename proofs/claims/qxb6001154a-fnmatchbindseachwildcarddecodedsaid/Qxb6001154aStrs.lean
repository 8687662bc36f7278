import Derived.Test.Qxb6001154aBase
namespace Go.Proofs.Qxb6001154a
open Go.RowKit

/-- The cells xs lie one behind the other from address a on. -/
def RowAt (w : World) (a : Option Addr) (xs : List Value) : Prop :=
  ∀ k x, xs[k]? = some x → ∃ b off, a = some ⟨b, off, none⟩ ∧ w.cell? ⟨b, off + k, none⟩ = some x

theorem cell_lt {w : World} {p : Addr} {v : Value} (h : w.cell? p = some v) : p.block < w.heap.size := by
  rcases Nat.lt_or_ge p.block w.heap.size with h1 | h1
  · exact h1
  · unfold World.cell? at h
    rw [Array.getElem?_eq_none h1] at h
    cases h

theorem RowAt.below {w w' : World} {a : Option Addr} {xs : List Value} (h : RowAt w a xs) (hb : Below w.heap.size w w') : RowAt w' a xs := by
  intro k x hx
  obtain ⟨b, off, ha, hc⟩ := h k x hx
  exact ⟨b, off, ha, by rw [hb.cell (cell_lt hc)]; exact hc⟩

theorem row_str {w : World} {a : Option Addr} {ss : List ByteArray} (h : RowAt w a (ss.map Value.string)) (k : Nat) (hk : k < ss.length) :
    ∃ b off, a = some ⟨b, off, none⟩ ∧ w.cell? ⟨b, off + k, none⟩ = some (.string ss[k]) :=
  h k _ (by simp [List.getElem?_eq_getElem hk])

def allWf (ss : List ByteArray) : Bool := ss.all fun s => Pl.wf s.data.toList

theorem allWf_snoc (ss : List ByteArray) (k : Nat) (hk : k < ss.length) : allWf (ss.take (k + 1)) = (allWf (ss.take k) && Pl.wf (ss[k]).data.toList) := by
  unfold allWf
  rw [List.take_succ_eq_append_getElem hk, List.all_append]
  simp

theorem allWf_false (ss : List ByteArray) (k : Nat) (hk : k < ss.length) (h : Pl.wf (ss[k]).data.toList = false) : allWf ss = false := by
  unfold allWf
  rw [List.all_eq_false]
  exact ⟨ss[k], List.getElem_mem hk, by rw [h]; decide⟩

theorem wellFormed_at (s : ByteArray) (b : Bool) (hs : s.size ≤ 2097152) (hb : Pl.wf s.data.toList = b) (w : World) :
    Calls Try.prog 16 #[.string s] w fun e w' => e = .returned (.bool b) ∧ w' = w := by
  subst hb; exact wellFormed s w hs

set_option maxRecDepth 100000 in
set_option maxHeartbeats 400000 in
theorem allWellFormed (a : Option Addr) (cap : Nat) (ss : List ByteArray) (w : World) (hr : RowAt w a (ss.map Value.string)) (hl : ss.length ≤ 2097152)
    (hz : ∀ s ∈ ss, s.size ≤ 2097152) :
    Calls Try.prog 21 #[.slice a ss.length cap] w fun e w' => e = .returned (.bool (allWf ss)) ∧ w' = w := by
  have HR : Hid (RowAt w a (ss.map Value.string)) := hr
  have HZ : Hid (∀ s ∈ ss, s.size ≤ 2097152) := hz
  clear hr hz
  go_enter Try.func21, Try.ntmps21
  go_wp2
  go_loop [3] (fun i => ∃ k : Nat, k ≤ ss.length ∧ i = .int .i64 k ∧ Hid (allWf (ss.take k) = true)) (fun i => ss.length - (intOf i).toNat)
  case atStart => exact ⟨0, Nat.zero_le _, rfl, rfl⟩
  case round =>
    obtain ⟨k, hk, rfl, hrel⟩ := hrel
    by_cases hlt : k < ss.length
    · obtain ⟨b, off, ha, hcell⟩ := row_str HR.out k hlt
      subst ha
      have hzk := HZ.out ss[k] (List.getElem_mem hlt)
      have HS : Hid (_ = _) := allWf_snoc ss k hlt
      have HF : Hid (_ → _) := allWf_false ss k hlt
      generalize hx : ss[k] = x at *
      clear hx
      generalize hb : Pl.wf x.data.toList = bb at *
      have HB : Hid (Pl.wf x.data.toList = bb) := hb
      clear hb
      cases bb
      · go_wp2_with (go_at_call 16; refine (wellFormed_at x _ hzk HB.out _).mono ?_; rintro e w' ⟨rfl, rfl⟩)
        go_ret
        exact ⟨ret_bool (HF.out (by first | rfl | trivial)).symm, rfl⟩
      · go_wp2_with (go_at_call 16; refine (wellFormed_at x _ hzk HB.out _).mono ?_; rintro e w' ⟨rfl, rfl⟩)
        go_round
        case rel => exact ⟨k + 1, by omega, by go_num, by have h1 := HS.out; rw [hrel.out] at h1; exact h1⟩
        case measure => simp [intOf]; omega
    · have HE : Hid (allWf ss = true) := by have h1 := hrel.out; rw [List.take_of_length_le (by omega)] at h1; exact h1
      go_wp2
      go_ret
      exact ⟨ret_bool HE.out.symm, rfl⟩

/-- The lengths' sum. -/
def sumSz : List ByteArray → Nat
  | [] => 0
  | s :: r => s.size + sumSz r
theorem sumSz_snoc : ∀ (l : List ByteArray) (s : ByteArray), sumSz (l ++ [s]) = sumSz l + s.size
  | [], s => by simp [sumSz]
  | x :: r, s => by have := sumSz_snoc r s; simp only [List.cons_append, sumSz]; omega
theorem sumSz_take (ss : List ByteArray) (k : Nat) (hk : k < ss.length) : sumSz (ss.take (k + 1)) = sumSz (ss.take k) + (ss[k]).size := by
  rw [List.take_succ_eq_append_getElem hk, sumSz_snoc]
theorem sumSz_mem : ∀ {ss : List ByteArray} {s : ByteArray}, s ∈ ss → s.size ≤ sumSz ss
  | x :: r, s, h => by
    rcases List.mem_cons.1 h with rfl | h
    · simp only [sumSz]; omega
    · have := sumSz_mem h; simp only [sumSz]; omega
theorem sumSz_take_le : ∀ (ss : List ByteArray) (k : Nat), sumSz (ss.take k) ≤ sumSz ss
  | [], k => by simp
  | x :: r, 0 => by simp [sumSz]
  | x :: r, k + 1 => by have := sumSz_take_le r k; simp only [List.take_succ_cons, sumSz]; omega

set_option maxRecDepth 100000 in
set_option maxHeartbeats 400000 in
/-- What the sum comes to is told where it is no more than the bound at which the function stops adding; else that it is above the bound. -/
theorem sumLen (a : Option Addr) (cap : Nat) (ss : List ByteArray) (w : World) (hr : RowAt w a (ss.map Value.string)) (hl : ss.length ≤ 65536)
    (hz : ∀ s ∈ ss, s.size ≤ 140737488355328) :
    Calls Try.prog 20 #[.slice a ss.length cap] w fun e w' => (∃ n : Nat, e = .returned (.int .i64 n) ∧ n ≤ 140737490452480 ∧ (n ≤ 2097152 → 16 * ss.length + sumSz ss = n)) ∧ w' = w := by
  have HR : Hid (RowAt w a (ss.map Value.string)) := hr
  have HZ : Hid (∀ s ∈ ss, s.size ≤ 140737488355328) := hz
  clear hr hz
  go_enter Try.func20, Try.ntmps20
  go_wp2
  go_loop [3, 4] (fun t i => ∃ k n : Nat, k ≤ ss.length ∧ i = .int .i64 k ∧ t = .int .i64 n ∧ n ≤ 2097152 ∧ Hid (16 * ss.length + sumSz (ss.take k) = n)) (fun _ i => ss.length - (intOf i).toNat)
  case atStart => exact ⟨0, 16 * ss.length, Nat.zero_le _, rfl, by go_num, by omega, by simp [sumSz, Hid]⟩
  case round =>
    obtain ⟨k, n, hk, rfl, rfl, hn, hrel⟩ := hrel
    by_cases hlt : k < ss.length
    · obtain ⟨b, off, ha, hcell⟩ := row_str HR.out k hlt
      subst ha
      have hzk := HZ.out ss[k] (List.getElem_mem hlt)
      have HS : Hid (_ = _) := sumSz_take ss k hlt
      generalize hx : ss[k] = x at *
      clear hx
      by_cases hgt : n + x.size ≤ 2097152
      · go_wp2
        go_round
        case rel => exact ⟨k + 1, n + x.size, by omega, by go_num, by go_num, hgt, (by have h1 := HS.out; have h2 := hrel.out; omega : _ = _)⟩
        case measure => simp [intOf]; omega
      · go_wp2
        go_ret
        exact ⟨⟨n + x.size, ret_val (congrArg (Value.int .i64) (by go_num)), by omega, fun h => by omega⟩, rfl⟩
    · have HE : Hid (16 * ss.length + sumSz ss = n) := by have h1 := hrel.out; rw [List.take_of_length_le (by omega)] at h1; exact h1
      go_wp2
      go_ret
      exact ⟨⟨n, rfl, by omega, fun _ => HE.out⟩, rfl⟩

end Go.Proofs.Qxb6001154a
