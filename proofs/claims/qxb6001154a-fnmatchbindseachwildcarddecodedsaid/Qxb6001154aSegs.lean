import Derived.Test.Qxb6001154aDecode
import Derived.Deep.AppendLies
namespace Go.Proofs.Qxb6001154a
open Go.RowKit

theorem Try.info34 : (Try.prog.info? 34).map (fun i => (i.zero, i.size, i.bytes)) = some (some (.agg #[.int .i64 0, .string ByteArray.empty]), 2, 24) := by kernel_rfl

/-- A segment: its kind's number and its text. -/
def seg (ts : List ByteArray) (i : Nat) (k : Int) : Nat × ByteArray :=
  ((k % 3).toNat, if k % 3 = 0 then (ts[i]?).getD ByteArray.empty else ByteArray.empty)
def segsOf (ks : List Int) (ts : List ByteArray) : List (Nat × ByteArray) := ks.mapIdx (seg ts)
/-- Segments as cells. -/
def segCells : List (Nat × ByteArray) → List Value
  | [] => []
  | s :: r => .int .i64 (s.1 : Int) :: .string s.2 :: segCells r
theorem segCells_length : ∀ l, (segCells l).length = l.length * 2
  | [] => rfl
  | s :: r => by have := segCells_length r; simp only [segCells, List.length_cons]; omega
theorem segCells_snoc : ∀ (l : List (Nat × ByteArray)) (s : Nat × ByteArray), segCells (l ++ [s]) = segCells l ++ [.int .i64 (s.1 : Int), .string s.2]
  | [], s => rfl
  | x :: r, s => by simp only [List.cons_append, segCells, segCells_snoc r s]
theorem segsOf_length (ks : List Int) (ts : List ByteArray) : (segsOf ks ts).length = ks.length := by simp [segsOf]
theorem segsOf_take (ks : List Int) (ts : List ByteArray) (k : Nat) (hk : k < ks.length) : (segsOf ks ts).take (k + 1) = (segsOf ks ts).take k ++ [seg ts k ks[k]] := by
  rw [List.take_succ_eq_append_getElem (by rw [segsOf_length]; exact hk)]
  simp [segsOf]

theorem seg_step {w : World} {base : Nat} {v : Value} {k : Nat} {l : List (Nat × ByteArray)} {s : Nat × ByteArray} {r : Int} {t : ByteArray} (h1 : l.take (k + 1) = l.take k ++ [s]) (h2 : s = (r.toNat, t)) (h : w.ownsRow base 34 2 v (k + 1) (segCells (l.take k) ++ [.int .i64 r, .string t])) (h0 : 0 ≤ r := by omega) :
    w.ownsRow base 34 2 v (k + 1) (segCells (l.take (k + 1))) := by
  rw [h1, segCells_snoc, h2]
  have e : ((r.toNat : Nat) : Int) = r := by omega
  rw [e]; exact h

set_option maxRecDepth 100000 in
set_option maxHeartbeats 1000000 in
theorem segmentsOf (a : Option Addr) (cap : Nat) (ks : List Int) (a2 : Option Addr) (cap2 : Nat) (ts : List ByteArray) (w : World) (hr : RowAt w a (ks.map (Value.int .u8))) (hr2 : RowAt w a2 (ts.map Value.string))
    (hl : ks.length ≤ 65536) (_hl2 : ts.length ≤ 65536) (hk8 : ∀ k ∈ ks, 0 ≤ k ∧ k ≤ 255) :
    Calls Try.prog 31 #[.slice a ks.length cap, .slice a2 ts.length cap2] w fun e w' => ∃ v, e = .returned v ∧ w'.ownsRow w.heap.size 34 2 v ks.length (segCells (segsOf ks ts)) ∧ Below w.heap.size w w' := by
  obtain ⟨i0, hi, hz0, hz1, hz2⟩ := info_parts Try.info34
  have HR : Hid (RowAt w a (ks.map (Value.int .u8))) := hr
  have HR2 : Hid (RowAt w a2 (ts.map Value.string)) := hr2
  have HK : Hid (∀ k ∈ ks, 0 ≤ k ∧ k ≤ 255) := hk8
  clear hr hr2 hk8
  go_enter Try.func31, Try.ntmps31
  go_wp2_with (at_make; refine wpList_make_any _ rfl _ _ 31 rfl w.heap.size 34 i0 (.agg #[.int .i64 0, .string ByteArray.empty]) 2 Try.underlying31 hi hz0 hz1 .i64 .i64 0 ks.length rfl rfl (by omega) (by rw [hz2]; omega) (by unfold maxLen; omega) (Nat.le_refl _) ?_; intro w1 hown1 hgrow1)
  go_loopw [5, 6] (fun v i wr => ∃ (k : Nat), k ≤ ks.length ∧ i = .int .i64 k ∧ wr.ownsRow w.heap.size 34 2 v k (segCells ((segsOf ks ts).take k)) ∧ Below w.heap.size w wr) (fun _ i _ => ks.length - (intOf i).toNat)
  case atStart =>
    exact ⟨0, by omega, rfl, by simpa [segCells] using hown1, (Below.refl _ _).grown hgrow1 (Nat.le_refl _) (fun k h => by cases h)⟩
  case round =>
    clear hown1 hgrow1
    obtain ⟨k, hk, rfl, hown, hbel⟩ := hrel
    have hbs := hbel.size
    by_cases hlt : k < ks.length
    · obtain ⟨b, off, ha, hc0⟩ := row_u8 HR.out k hlt
      subst ha
      have hcell : wr.cell? ⟨b, off + k, none⟩ = some (.int .u8 ks[k]) := (hbel.cell (cell_lt hc0)).trans hc0
      obtain ⟨hk1, hk2⟩ := HK.out ks[k] (List.getElem_mem hlt)
      have HT : Hid (_ = _) := segsOf_take ks ts k hlt
      generalize ks[k] = x at *
      clear hc0
      by_cases hx0 : x % 3 = 0
      · by_cases hkt : k < ts.length
        · obtain ⟨b2, off2, ha2, hc2⟩ := row_str HR2.out k hkt
          subst ha2
          have hcell2 : wr.cell? ⟨b2, off2 + k, none⟩ = some (.string ts[k]) := (hbel.cell (cell_lt hc2)).trans hc2
          have HS : Hid (seg ts k x = (0, ts[k])) := (by simp [seg, hx0, List.getElem?_eq_getElem hkt] : _ = _)
          clear hc2
          go_wp2_with (at_builtin; refine wpList_append_own _ rfl _ _ 31 rfl w.heap.size 34 i0 (.agg #[.int .i64 0, .string ByteArray.empty]) 2 24 Try.underlying31 hi hz0 hz1 hz2 rfl (by decide) _ _ _ rfl (hown.alloc _) ⟨wr.heap.size, 0, none⟩ 1 1 [.int .i64 0, .string ts[k]] rfl rfl (World.news_of_block (heap_alloc_new wr _)) (by intro u hu; simp at hu; rcases hu with rfl | rfl <;> rfl) (by unfold maxLen; omega) (by omega) (by simp; omega) ?_; intro v' w3 hown3 hgrow3 _)
          go_roundw
          case rel => first | exact ⟨k + 1, by omega, by go_num, seg_step (r := 0) HT.out HS.out hown3, below_append hbel hgrow3 (owns_block hown)⟩ | ((repeat apply Exists.intro); exact ⟨⟨k + 1, by omega, by go_num, seg_step (r := 0) HT.out HS.out hown3, below_append hbel hgrow3 (owns_block hown)⟩, rfl⟩)
          case measure => simp [intOf]; omega
        · have HS : Hid (seg ts k x = (0, ByteArray.empty)) := (by simp [seg, hx0, List.getElem?_eq_none (Nat.le_of_not_lt hkt)] : _ = _)
          go_wp2_with (at_builtin; refine wpList_append_own _ rfl _ _ 31 rfl w.heap.size 34 i0 (.agg #[.int .i64 0, .string ByteArray.empty]) 2 24 Try.underlying31 hi hz0 hz1 hz2 rfl (by decide) _ _ _ rfl (hown.alloc _) ⟨wr.heap.size, 0, none⟩ 1 1 [.int .i64 0, .string ByteArray.empty] rfl rfl (World.news_of_block (heap_alloc_new wr _)) (by intro u hu; simp at hu; rcases hu with rfl | rfl <;> rfl) (by unfold maxLen; omega) (by omega) (by simp; omega) ?_; intro v' w3 hown3 hgrow3 _)
          go_roundw
          case rel => first | exact ⟨k + 1, by omega, by go_num, seg_step (r := 0) HT.out HS.out hown3, below_append hbel hgrow3 (owns_block hown)⟩ | ((repeat apply Exists.intro); exact ⟨⟨k + 1, by omega, by go_num, seg_step (r := 0) HT.out HS.out hown3, below_append hbel hgrow3 (owns_block hown)⟩, rfl⟩)
          case measure => simp [intOf]; omega
      · have HS : Hid (seg ts k x = ((x % 3).toNat, ByteArray.empty)) := (by simp [seg, hx0] : _ = _)
        go_wp2_with (at_builtin; refine wpList_append_own _ rfl _ _ 31 rfl w.heap.size 34 i0 (.agg #[.int .i64 0, .string ByteArray.empty]) 2 24 Try.underlying31 hi hz0 hz1 hz2 rfl (by decide) _ _ _ rfl (hown.alloc _) ⟨wr.heap.size, 0, none⟩ 1 1 [.int .i64 (x % 3), .string ByteArray.empty] rfl rfl (World.news_of_block (heap_alloc_new wr _)) (by intro u hu; simp at hu; rcases hu with rfl | rfl <;> rfl) (by unfold maxLen; omega) (by omega) (by simp; omega) ?_; intro v' w3 hown3 hgrow3 _)
        go_roundw
        case rel => first | exact ⟨k + 1, by omega, by go_num, seg_step (r := x % 3) HT.out HS.out hown3, below_append hbel hgrow3 (owns_block hown)⟩ | ((repeat apply Exists.intro); exact ⟨⟨k + 1, by omega, by go_num, seg_step (r := x % 3) HT.out HS.out hown3, below_append hbel hgrow3 (owns_block hown)⟩, rfl⟩)
        case measure => simp [intOf]; omega
    · have HE : Hid ((segsOf ks ts).take k = segsOf ks ts) := List.take_of_length_le (by rw [segsOf_length]; omega)
      have hkk : k = ks.length := by omega
      subst hkk
      go_wp2
      go_ret
      exact ⟨_, rfl, by rw [← HE.out]; exact hown, hbel⟩

end Go.Proofs.Qxb6001154a
