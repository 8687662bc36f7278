import Derived.Test.Qxb6001154aMatchA
import Derived.Test.Qxb6001154aLawKeys
import Derived.BigQuiet
namespace Go.Proofs.Qxb6001154a
open Go.RowKit

theorem cell_grown {w w' : World} (h : w.grownBy w' none) {p : Addr} (hp : p.block < w.heap.size) : w'.cell? p = w.cell? p :=
  ((Below.refl w.heap.size w).grown h (Nat.le_refl _) (fun k h => by cases h)).cell hp
theorem isEmpty_no {x : ByteArray} (h : ¬ x.size = 0) : x.toList.isEmpty = false := by
  rw [ByteArray.toList_eq]
  cases hx : x.data.toList with
  | nil => exact absurd (show x.data.toList.length = 0 by rw [hx]; rfl) h
  | cons a r => rfl
theorem join1' (b off n cap : Nat) (s sep : ByteArray) (w : World) (hn : n = 1) (hc : w.cell? ⟨b, off, none⟩ = some (.string s)) :
    Calls Try.prog 42 #[.slice (some ⟨b, off, none⟩) n cap, .string sep] w fun e w' => e = .returned (.string s) ∧ w = w' := by
  subst hn; exact join1 b off cap s sep w hc
/-- What Match of n wildcards answers. -/
def matchB (n : Nat) (ts : List ByteArray) : Bool := ts.length == n && ts.all (fun t => t.size != 0)
/-- The values' cells: pointwise. -/
def Vals (g2 : Nat) (ts : List ByteArray) (k : Nat) (xs : List Value) : Prop :=
  ∀ i, i < k → xs[i * 2]? = some (.pointer (some ⟨g2, i * 3, none⟩)) ∧ ∀ t, ts[i]? = some t → xs[i * 2 + 1]? = some (.string (decB t))
theorem vals_snoc {g2 : Nat} {ts : List ByteArray} {k : Nat} {xs : List Value} {t : ByteArray} (h : Vals g2 ts k xs) (hl : xs.length = k * 2) (ht : ts[k]? = some t) :
    Vals g2 ts (k + 1) (xs ++ [.pointer (some ⟨g2, k * 3, none⟩), .string (decB t)]) := by
  intro i hi
  rcases Nat.lt_or_ge i k with h1 | h1
  · obtain ⟨p, q⟩ := h i h1
    refine ⟨by rw [List.getElem?_append_left (by omega)]; exact p, fun t' ht' => ?_⟩
    rw [List.getElem?_append_left (by omega)]
    exact q t' ht'
  · obtain rfl : i = k := by omega
    refine ⟨?_, fun t' ht' => ?_⟩
    · rw [List.getElem?_append_right (by omega), hl]; simp
    · rw [List.getElem?_append_right (by omega), hl]
      rw [ht] at ht'
      cases ht'
      have e : i * 2 + 1 - i * 2 = 1 := by omega
      rw [e]; rfl

def MatchPost (n g2 : Nat) (ts : List ByteArray) (w : World) (e : Ending) (w' : World) : Prop :=
  (∃ v, e = .returned (.tuple #[v, .bool (matchB n ts)]) ∧ (matchB n ts = false → v = .slice none 0 0) ∧ (matchB n ts = true → ∃ xs, w'.ownsRow w.heap.size 50 2 v n xs ∧ Vals g2 ts n xs)) ∧ Below w.heap.size w w'

theorem matchPost_false {n g2 : Nat} {ts : List ByteArray} {w w' : World} (h : matchB n ts = false) (hb : Below w.heap.size w w') : MatchPost n g2 ts w (.returned (.tuple #[.slice none 0 0, .bool false])) w' :=
  ⟨⟨_, by rw [h], fun _ => rfl, fun h' => by rw [h] at h'; cases h'⟩, hb⟩
theorem matchPost_true {n g2 : Nat} {ts : List ByteArray} {w w' : World} {v : Value} {xs : List Value} (h : matchB n ts = true) (ho : w'.ownsRow w.heap.size 50 2 v n xs) (hv : Vals g2 ts n xs) (hb : Below w.heap.size w w') : MatchPost n g2 ts w (.returned (.tuple #[v, .bool true])) w' :=
  ⟨⟨v, by rw [h], fun h' => (by rw [h] at h'; cases h'), fun _ => ⟨xs, ho, hv⟩⟩, hb⟩
theorem matchB_len {n : Nat} {ts : List ByteArray} (h : ts.length ≠ n) : matchB n ts = false := by
  unfold matchB; simp [h]
theorem matchB_empty {n : Nat} {ts : List ByteArray} (k : Nat) (hk : k < ts.length) (h : ts[k].size = 0) : matchB n ts = false := by
  unfold matchB
  have : ts.all (fun t => t.size != 0) = false := by
    rw [List.all_eq_false]
    exact ⟨ts[k], List.getElem_mem hk, by simp [h]⟩
  rw [this, Bool.and_false]
theorem matchB_full {n : Nat} {ts : List ByteArray} (hl : ts.length = n) (h : ∀ t ∈ ts, t.size ≠ 0) : matchB n ts = true := by
  unfold matchB
  simp only [Bool.and_eq_true, beq_iff_eq, List.all_eq_true, bne_iff_ne]
  exact ⟨hl, h⟩

set_option maxRecDepth 100000 in
set_option maxHeartbeats 2000000 in
theorem matchW (bt g1 g2 n c1 c2 : Nat) (a : Option Addr) (cap : Nat) (ts : List ByteArray) (w : World)
    (hT0 : w.cell? ⟨bt, 0, none⟩ = some (.slice (some ⟨g1, 0, none⟩) n c1)) (hT1 : w.cell? ⟨bt, 1, none⟩ = some (.slice (some ⟨g2, 0, none⟩) n c2)) (hT2 : w.cell? ⟨bt, 2, none⟩ = some (.string ByteArray.empty))
    (hS : ∀ i, i < n → w.cell? ⟨g1, i * 2, none⟩ = some (.int .i64 1) ∧ w.cell? ⟨g1, i * 2 + 1, none⟩ = some (.string ByteArray.empty))
    (hV : ∀ i, i < n → w.cell? ⟨g2, i * 3 + 1, none⟩ = some (.int .i64 i) ∧ w.cell? ⟨g2, i * 3 + 2, none⟩ = some (.int .i64 (i + 1)))
    (hr : RowAt w a (ts.map Value.string)) (hc : ts.length ≤ cap) (hcm : cap ≤ 65536) (h1 : 1 ≤ n) (hn : n ≤ 65536) (hz : ∀ s ∈ ts, s.size ≤ 2097152) (hw : ∀ s ∈ ts, Pl.wf s.data.toList = true) :
    Calls Try.prog 25 #[.pointer (some ⟨bt, 0, none⟩), .agg #[.slice a ts.length cap, .string ByteArray.empty, .slice none 0 0]] w (MatchPost n g2 ts w) := by
  obtain ⟨i0, hi, hz0, hz1, hz2⟩ := info_parts Try.info50
  have HS : Hid (∀ i, i < n → w.cell? ⟨g1, i * 2, none⟩ = some (.int .i64 1) ∧ w.cell? ⟨g1, i * 2 + 1, none⟩ = some (.string ByteArray.empty)) := hS
  have HV : Hid (∀ i, i < n → w.cell? ⟨g2, i * 3 + 1, none⟩ = some (.int .i64 i) ∧ w.cell? ⟨g2, i * 3 + 2, none⟩ = some (.int .i64 (i + 1))) := hV
  have HR : Hid (RowAt w a (ts.map Value.string)) := hr
  have HZ : Hid (∀ s ∈ ts, s.size ≤ 2097152) := hz
  have HW : Hid (∀ s ∈ ts, Pl.wf s.data.toList = true) := hw
  clear hS hV hr hz hw
  have hbt := cell_lt hT0
  have hg1 := cell_lt (HS.out 0 h1).1
  have hg2 := cell_lt (HV.out 0 h1).1
  have hlast := (HS.out (n - 1) (by omega)).1
  simp only at hbt hg1 hg2
  by_cases hln : ts.length = n
  case neg =>
    have HF : Hid (matchB n ts = false) := matchB_len hln
    have hne : ((ts.length : Int) != (n : Int)) = true := by simp; omega
    go_enter Try.func25, Try.ntmps25
    go_wp2_with fail
    refine bodyPost_ret (results_tmp2 rfl _ _ _) rfl ?_
    exact matchPost_false HF.out (by (repeat' (first | assumption | exact Below.refl _ _ | refine below_drewN ?_ _ | refine Below.drew ?_ | refine Below.alloc ?_ (by first | omega | (simp; done) | (simp; omega)) _)))
  subst hln
  go_enter Try.func25, Try.ntmps25
  go_wp2_with fail
  go_loopw [78] (fun i wr => ∃ k : Nat, k ≤ ts.length ∧ i = .int .i64 k ∧ Hid (∀ j (hj : j < ts.length), j < k → ts[j].size ≠ 0) ∧ Below w.heap.size w wr) (fun i _ => ts.length - (intOf i).toNat)
  case atStart => exact ⟨0, Nat.zero_le _, rfl, fun j hj h => by omega, by (repeat' (first | assumption | exact Below.refl _ _ | refine below_drewN ?_ _ | refine Below.drew ?_ | refine Below.alloc ?_ (by first | omega | (simp; done) | (simp; omega)) _))⟩
  case round =>
    obtain ⟨k, hk, rfl, hne, hbel⟩ := hrel
    have hbs := hbel.size
    by_cases hlt : k < ts.length
    · obtain ⟨b, off, ha, hc0⟩ := row_str HR.out k hlt
      subst ha
      have hbb := cell_lt hc0
      simp only at hbb
      have hbk : b < wr.heap.size := by omega
      have hgk : g1 < wr.heap.size := by omega
      have hcell : wr.cell? ⟨b, off + k, none⟩ = some (.string ts[k]) := (hbel.cell hbb).trans hc0
      have hs1 : wr.cell? ⟨g1, k * 2, none⟩ = some (.int .i64 1) := (hbel.cell (p := ⟨g1, k * 2, none⟩) hg1).trans (HS.out k hlt).1
      have hs2 : wr.cell? ⟨g1, k * 2 + 1, none⟩ = some (.string ByteArray.empty) := (hbel.cell (p := ⟨g1, k * 2 + 1, none⟩) hg1).trans (HS.out k hlt).2
      by_cases he : ts[k].size = 0
      · have HF : Hid (matchB ts.length ts = false) := matchB_empty k hlt he
        have hee : ts[k] = ByteArray.empty := ByteArray.ext (by have h0 : ts[k].data.size = 0 := he; exact Array.eq_empty_of_size_eq_zero h0)
        rw [hee] at hcell
        clear hc0 he hee
        go_wp2_with fail
        refine bodyPost_ret (results_tmp2 rfl _ _ _) rfl ?_
        exact matchPost_false HF.out (by (repeat' (first | assumption | exact Below.refl _ _ | refine below_drewN ?_ _ | refine Below.drew ?_ | refine Below.alloc ?_ (by first | omega | (simp; done) | (simp; omega)) _)))
      · have HN : Hid (∀ j (hj : j < ts.length), j < k + 1 → ts[j].size ≠ 0) := by
          intro j hj h
          rcases Nat.lt_or_ge j k with h' | h'
          · exact hne.out j hj h'
          · obtain rfl : j = k := by omega
            exact he
        have hee : ts[k].toList.isEmpty = false := isEmpty_no he
        clear hc0 hne
        generalize ts[k] = x at *
        go_wp2_with fail

        refine ⟨⟨k + 1, by omega, by go_num, HN.out, by (repeat' (first | assumption | exact Below.refl _ _ | refine below_drewN ?_ _ | refine Below.drew ?_ | refine Below.alloc ?_ (by first | omega | (simp; done) | (simp; omega)) _))⟩, ?_⟩
        simp [intOf]; omega
    · have HF : Hid (matchB ts.length ts = true) := matchB_full rfl (fun t ht => by
        obtain ⟨j, hj, rfl⟩ := List.getElem_of_mem ht
        exact hne.out j hj (by omega))
      have hbk : bt < wr.heap.size := by omega
      have hT1r : wr.cell? ⟨bt, 1, none⟩ = some (.slice (some ⟨g2, 0, none⟩) ts.length c2) := (hbel.cell (p := ⟨bt, 1, none⟩) hbt).trans hT1
      have hT0r : wr.cell? ⟨bt, 0, none⟩ = some (.slice (some ⟨g1, 0, none⟩) ts.length c1) := (hbel.cell (p := ⟨bt, 0, none⟩) hbt).trans hT0
      clear hne
      go_wp2_with (at_make; go_must (refine wpList_make_any _ rfl _ _ 42 rfl w.heap.size 50 i0 (.agg #[.pointer none, .string ByteArray.empty]) 2 Try.underlying42 hi hz0 hz1 .i64 .i64 0 ts.length rfl rfl (by omega) (by rw [hz2]; omega) (by unfold maxLen; omega) hbs ?_); intro w1 hown1 hgrow1; have hT1m : w1.cell? ⟨bt, 1, none⟩ = some (.slice (some ⟨g2, 0, none⟩) ts.length c2) := (cell_grown hgrow1 (p := ⟨bt, 1, none⟩) hbk).trans hT1r)
      go_loopw [11, 114] (fun v i wr => ∃ (k : Nat) (xs : List Value), k ≤ ts.length ∧ i = .int .i64 k ∧ wr.ownsRow w.heap.size 50 2 v k xs ∧ Hid (Vals g2 ts k xs) ∧ Below w.heap.size w wr) (fun _ i _ => ts.length - (intOf i).toNat)
      case atStart => exact ⟨0, [], Nat.zero_le _, rfl, by simpa using hown1, fun i hi => by omega, hbel.grown hgrow1 hbs (fun k h => by cases h)⟩
      case round =>
        clear hown1 hgrow1 hT1m hT1r hT0r hbk hbs hbel hk hlt
        obtain ⟨k, xs, hk, rfl, hown, hvals, hbel⟩ := hrel
        have hbs := hbel.size
        by_cases hlt : k < ts.length
        · obtain ⟨b, off, ha, hc0⟩ := row_str HR.out k hlt
          subst ha
          have hbb := cell_lt hc0
          simp only at hbb
          have hcell : wr.cell? ⟨b, off + k, none⟩ = some (.string ts[k]) := (hbel.cell hbb).trans hc0
          have ht0 : wr.cell? ⟨bt, 0, none⟩ = some (.slice (some ⟨g1, 0, none⟩) ts.length c1) := (hbel.cell (p := ⟨bt, 0, none⟩) hbt).trans hT0
          have ht1 : wr.cell? ⟨bt, 1, none⟩ = some (.slice (some ⟨g2, 0, none⟩) ts.length c2) := (hbel.cell (p := ⟨bt, 1, none⟩) hbt).trans hT1
          have hs1 : wr.cell? ⟨g1, k * 2, none⟩ = some (.int .i64 1) := (hbel.cell (p := ⟨g1, k * 2, none⟩) hg1).trans (HS.out k hlt).1
          have hv1 : wr.cell? ⟨g2, k * 3 + 1, none⟩ = some (.int .i64 k) := (hbel.cell (p := ⟨g2, k * 3 + 1, none⟩) hg2).trans (HV.out k hlt).1
          have hv2 : wr.cell? ⟨g2, k * 3 + 2, none⟩ = some (.int .i64 (k + 1)) := (hbel.cell (p := ⟨g2, k * 3 + 2, none⟩) hg2).trans (HV.out k hlt).2
          have hzk := HZ.out ts[k] (List.getElem_mem hlt)
          have hwk := HW.out ts[k] (List.getElem_mem hlt)
          have HG : Hid (ts[k]? = some ts[k]) := List.getElem?_eq_getElem hlt
          generalize ts[k] = x at *
          have hwr : IntKind.i64.wrap ((k : Int) + 1 - k) = 1 := by rw [show (k : Int) + 1 - k = 1 by omega]; rfl
          clear hc0
          rcases (by omega : k + 1 = ts.length ∨ k + 1 < ts.length) with hkn | hkn
          all_goals go_wp2_with fail
          all_goals go_quiet (fail)
          all_goals go_wp2_with fail
          all_goals (refine (join1' _ _ _ _ x _ _ (by omega) (by simpa using hcell)).mono ?_; rintro e w' ⟨rfl, hw'⟩; subst hw')
          all_goals (go_wp2_with fail)
          all_goals (refine (unescapeB x _ hzk hwk).mono ?_; rintro e w2 ⟨rfl, hb2⟩)
          all_goals
            have hown2 : w2.ownsRow w.heap.size 50 2 _ k xs := owns_below (owns_drewN hown nq) hb2
            have hbel2 : Below w.heap.size w w2 := (below_drewN hbel nq).trans (hb2.mono (by simpa using hbs))
            have hbs2 := hbel2.size
            have HV2 : Hid (Vals g2 ts (k + 1) (xs ++ [.pointer (some ⟨g2, k * 3, none⟩), .string (decB x)])) := vals_snoc hvals.out hown.1 HG.out
            clear hown hvals hb2 hbel HG hcell hs1 hv1 hv2 ht0 ht1
          all_goals go_wp2_with (at_builtin; go_must (refine wpList_append_own _ rfl _ _ 42 rfl w.heap.size 50 i0 (.agg #[.pointer none, .string ByteArray.empty]) 2 24 Try.underlying42 hi hz0 hz1 hz2 rfl (by decide) _ _ _ rfl (hown2.alloc _) ⟨w2.heap.size, 0, none⟩ 1 1 [.pointer (some ⟨g2, k * 3, none⟩), .string (decB x)] rfl rfl (World.news_of_block (heap_alloc_new w2 _)) (by intro u hu; simp at hu; rcases hu with rfl | rfl <;> rfl) (by unfold maxLen; omega) (by omega) (by simp; omega) ?_); intro v' w3 hown3 hgrow3 _)
          all_goals go_roundw
          all_goals (first | exact ⟨k + 1, _, by omega, by go_num, hown3, HV2.out, below_append hbel2 hgrow3 (owns_block hown2)⟩ | ((repeat apply Exists.intro); exact ⟨⟨k + 1, _, by omega, by go_num, hown3, HV2.out, below_append hbel2 hgrow3 (owns_block hown2)⟩, rfl⟩) | (simp [intOf]; omega))
        · have hkk : k = ts.length := by omega
          subst hkk
          go_wp2_with fail
          refine bodyPost_ret (results_tmp2 rfl _ _ _) rfl ?_
          exact matchPost_true HF.out hown hvals.out hbel

end Go.Proofs.Qxb6001154a
