import Derived.Test.Qxb6001154aMatch
import Derived.OneCell
import Derived.LaidEqlPtr
import Derived.Deep.Cut
import Derived.Deep.CutRange
import Derived.Deep.RegionWith
namespace Go.Proofs.Qxb6001154a
open Go.RowKit

def SegOk (k : Nat) (xs : List Value) : Prop := ∀ i, i < k → xs[i * 2]? = some (.int .i64 1) ∧ xs[i * 2 + 1]? = some (.string ByteArray.empty)
def VarOk (k : Nat) (ys : List Value) : Prop := ∀ i, i < k → ys[i * 3 + 1]? = some (.int .i64 i) ∧ ys[i * 3 + 2]? = some (.int .i64 (i + 1))

theorem segOk_next {k : Nat} {xs : List Value} (h : SegOk k xs) (hl : k * 2 + 1 < xs.length) : SegOk (k + 1) ((xs.set (k * 2) (.int .i64 1)).set (k * 2 + 1) (.string ByteArray.empty)) := by
  intro i hi
  rcases Nat.lt_or_ge i k with h1 | h1
  · obtain ⟨p, q⟩ := h i h1
    rw [List.getElem?_set_ne (by omega), List.getElem?_set_ne (by omega), List.getElem?_set_ne (by omega), List.getElem?_set_ne (by omega)]
    exact ⟨p, q⟩
  · obtain rfl : i = k := by omega
    rw [List.getElem?_set_ne (by omega), List.getElem?_set_self (by omega), List.getElem?_set_self (by rw [List.length_set]; omega)]
    exact ⟨rfl, rfl⟩
theorem varOk_next {k : Nat} {ys : List Value} {u : Value} (h : VarOk k ys) (hl : k * 3 + 2 < ys.length) : VarOk (k + 1) (((ys.set (k * 3) u).set (k * 3 + 1) (.int .i64 k)).set (k * 3 + 2) (.int .i64 (k + 1))) := by
  intro i hi
  rcases Nat.lt_or_ge i k with h1 | h1
  · obtain ⟨p, q⟩ := h i h1
    rw [List.getElem?_set_ne (by omega), List.getElem?_set_ne (by omega), List.getElem?_set_ne (by omega), List.getElem?_set_ne (by omega), List.getElem?_set_ne (by omega), List.getElem?_set_ne (by omega)]
    exact ⟨p, q⟩
  · obtain rfl : i = k := by omega
    rw [List.getElem?_set_ne (by omega), List.getElem?_set_self (by rw [List.length_set]; omega), List.getElem?_set_self (by rw [List.length_set, List.length_set]; omega)]
    exact ⟨rfl, rfl⟩

theorem owns5x {w : World} {B g g' n cap : Nat} {e : TypeId} {xs : List Value} {j j' : Nat} {u0 u1 v0 v1 v2 : Value} (h : w.ownsRow B e 2 (.slice (some ⟨g, 0, none⟩) n cap) n xs) (hne : g ≠ g') :
    (((((w.setCell ⟨g, j, none⟩ u0).setCell ⟨g, j + 1, none⟩ u1).setCell ⟨g', j', none⟩ v0).setCell ⟨g', j' + 1, none⟩ v1).setCell ⟨g', j' + 2, none⟩ v2).ownsRow B e 2 (.slice (some ⟨g, 0, none⟩) n cap) n ((xs.set j u0).set (j + 1) u1) := by
  have hb : ∀ x : Addr, x.block = g' → (Value.slice (some ⟨g, 0, none⟩) n cap).ownBlock ≠ some x.block := by
    intro x hx; rw [hx]; simp [Value.ownBlock]; exact hne
  exact ownsRow_setCell_other (ownsRow_setCell_other (ownsRow_setCell_other ((h.stored j u0).1.stored (j + 1) u1).1 (hb _ rfl) v0) (hb _ rfl) v1) (hb _ rfl) v2
theorem owns5y {w : World} {B g g' n cap : Nat} {e : TypeId} {ys : List Value} {j j' : Nat} {u0 u1 v0 v1 v2 : Value} (h : w.ownsRow B e 3 (.slice (some ⟨g', 0, none⟩) n cap) n ys) (hne : g ≠ g') :
    (((((w.setCell ⟨g, j, none⟩ u0).setCell ⟨g, j + 1, none⟩ u1).setCell ⟨g', j', none⟩ v0).setCell ⟨g', j' + 1, none⟩ v1).setCell ⟨g', j' + 2, none⟩ v2).ownsRow B e 3 (.slice (some ⟨g', 0, none⟩) n cap) n (((ys.set j' v0).set (j' + 1) v1).set (j' + 2) v2) := by
  have hb : ∀ x : Addr, x.block = g → (Value.slice (some ⟨g', 0, none⟩) n cap).ownBlock ≠ some x.block := by
    intro x hx; rw [hx]; simp [Value.ownBlock]; exact fun e => hne e.symm
  exact (((((ownsRow_setCell_other (ownsRow_setCell_other h (hb _ rfl) u0) (hb _ rfl) u1)).stored j' v0).1.stored (j' + 1) v1).1.stored (j' + 2) v2).1
theorem all_yes {b : Bool} {ts : List ByteArray} {j : Nat} {x : ByteArray} (hT : ts.take (j + 1) = ts.take j ++ [x]) (he : x.size = 0) : false = (b && (ts.take (j + 1)).all (fun t => t.size != 0)) := by
  rw [hT, List.all_append]
  simp only [List.all_cons, List.all_nil, he]
  cases b <;> cases (ts.take j).all (fun t => t.size != 0) <;> rfl
theorem all_no {b : Bool} {ts : List ByteArray} {j : Nat} {x : ByteArray} (hT : ts.take (j + 1) = ts.take j ++ [x]) (he : ¬ x.size = 0) : (b && (ts.take j).all (fun t => t.size != 0)) = (b && (ts.take (j + 1)).all (fun t => t.size != 0)) := by
  rw [hT, List.all_append]
  have : (x.size != 0) = true := by rw [bne_iff_ne]; exact he
  simp only [List.all_cons, List.all_nil, this, Bool.and_true]
theorem neq_ptr_same {P : Program} {tp te : TypeId} {j : TypeInfo} (a : Addr) (hp : P.underlying tp = some (.pointer te)) (hte : P.info? te = some j) (w : World) :
    (binOp .neq tp (.pointer (some a)) (.pointer (some a))).run P w = .ok (.bool false) w := by
  have h : ∀ d : Nat, (Op.equalIn (d + 1) tp (.pointer (some a)) (.pointer (some a))).run P w = .ok true w := fun d => by
    simp [Op.equalIn, run_underlying hp, sizeOf, typeInfo, hte, run_sameAddr_same]
  simp only [binOp]
  simp [Op.equal, Op.maxDepth, h 9999]
theorem isEmpty_yes {x : ByteArray} (h : x.size = 0) : x.toList.isEmpty = true := by
  rw [ByteArray.toList_eq]
  cases hx : x.data.toList with
  | nil => rfl
  | cons a r =>
    have : x.data.toList.length = 0 := h
    rw [hx] at this
    simp at this

set_option maxRecDepth 100000 in
set_option maxHeartbeats 2000000 in
theorem binds (n : Int) (a : Option Addr) (c : Nat) (ts : List ByteArray) (w : World)
    (hr : RowAt w a (ts.map Value.string)) (h1 : ts.length ≤ 140737488355328) (hz1 : ∀ s ∈ ts, s.size ≤ 140737488355328) :
    Calls Try.prog 7 #[.int .i64 n, .slice a ts.length c] w fun e w' => e = .returned (.bool true) ∧ Below w.heap.size w w' := by
  obtain ⟨i1, hi1, hy0, hy1, hy2⟩ := info_parts Try.info34
  obtain ⟨i2, hi2, hx0, hx1, hx2⟩ := info_parts Try.info47
  have R1 : Hid (RowAt w a (ts.map Value.string)) := hr
  have Z1 : Hid _ := hz1
  clear hr hz1
  go_enter Try.func7, Try.ntmps7
  go_wp2_with fail
  refine (zzBytesBinds _ _ _ ts _ R1.out h1 Z1.out).mono ?_
  rintro e w' ⟨⟨b, rfl⟩, rfl⟩
  cases b
  · go_wp2
    go_ret
    exact ⟨rfl, Below.refl _ _⟩
  by_cases hL : ts.length ≤ 65536
  case neg =>
    go_wp2_with fail
    all_goals go_ret
    all_goals exact ⟨rfl, Below.refl _ _⟩
  clear h1
  go_wp2_with fail
  refine (sumLen _ _ ts _ R1.out hL Z1.out).mono ?_
  rintro e w' ⟨⟨n1, rfl, hn1, hs1⟩, hw'⟩
  have hw'' := hw'.symm
  clear hw'
  subst hw''
  have S1 : Hid _ := hs1
  clear hs1
  by_cases hsum : n1 ≤ 1048576
  case neg =>
    go_wp2_with fail
    all_goals go_ret
    all_goals exact ⟨rfl, Below.refl _ _⟩
  have z1 := S1.out (by omega)
  have Y1 : Hid (∀ s ∈ ts, s.size ≤ 2097152) := fun s hs => by have := sumSz_mem hs; omega
  clear z1 S1 Z1
  by_cases hn : 1 ≤ n ∧ n ≤ 65536
  case neg =>
    by_cases hn1' : n < 1
    all_goals go_wp2_with fail
    all_goals go_ret
    all_goals exact ⟨rfl, Below.refl _ _⟩
  obtain ⟨hnl, hnu⟩ := hn
  obtain ⟨N, rfl⟩ : ∃ N : Nat, n = (N : Int) := ⟨n.toNat, by omega⟩
  have hN1 : 1 ≤ N := by omega
  have hN2 : N ≤ 65536 := by omega
  clear hnl hnu
  go_wp2_with fail
  refine (allWellFormed _ _ ts _ R1.out (by omega) Y1.out).mono ?_
  rintro e w' ⟨rfl, hw'⟩
  have hw'' := hw'.symm
  clear hw'
  subst hw''
  cases hb1 : allWf ts
  · go_wp2_with fail
    all_goals go_ret
    all_goals exact ⟨rfl, Below.refl _ _⟩
  have B1 : Hid (∀ s ∈ ts, Pl.wf s.data.toList = true) := fun s hs => List.all_eq_true.1 hb1 s hs
  clear hb1 hsum hn1
  go_wp2_with fail
  refine (cloneStringsC _ _ ts _ R1.out hL).mono ?_
  rintro e w1 ⟨⟨a1, c1, rfl, hc1, -, r1⟩, b1⟩
  have Q1 : Hid (RowAt w1 a1 (ts.map Value.string)) := r1
  clear r1
  go_wp2_with fail
  refine (cloneStringsC _ _ ts _ Q1.out hL).mono ?_
  rintro e w2 ⟨⟨a2, c2, rfl, hc2, hm2, r2⟩, b2⟩
  have Q2 : Hid (RowAt w2 a2 (ts.map Value.string)) := r2
  have Q1' : Hid (RowAt w2 a1 (ts.map Value.string)) := Q1.out.below b2
  have BB2 := b1.trans (b2.mono b1.size)
  clear r2 Q1 b1 b2 R1
  go_wp2_with (at_make; first
    | (refine wpList_make_full _ rfl _ _ 31 rfl w2.heap.size 34 i1 (.agg #[.int .i64 0, .string ByteArray.empty]) 2 Try.underlying31 hi1 hy0 hy1 .i64 .i64 _ _ N rfl rfl rfl rfl (by rw [hy2]; omega) (by unfold maxLen; omega) (Nat.le_refl _) ?_; intro w3 hown3 hgrow3)
    | (refine wpList_make_full w3 rfl _ _ 36 rfl w3.heap.size 47 i2 (.agg #[.slice none 0 0, .int .i64 0, .int .i64 0]) 3 Try.underlying36 hi2 hx0 hx1 .i64 .i64 _ _ N rfl rfl rfl rfl (by rw [hx2]; omega) (by unfold maxLen; omega) (Nat.le_refl _) ?_; intro w4 hown4 hgrow4))
  have hlt23 : w2.heap.size < w3.heap.size := ownsRow_lt hown3 _ rfl
  have bw34 : Below w3.heap.size w3 w4 := (Below.refl _ _).grown hgrow4 (Nat.le_refl _) (fun k h => by cases h)
  have bw23 : Below w2.heap.size w2 w3 := (Below.refl _ _).grown hgrow3 (Nat.le_refl _) (fun k h => by cases h)
  have O3 : Hid (w4.ownsRow w2.heap.size 34 2 (.slice (some ⟨w2.heap.size, 0, none⟩) N N) N _) := owns_below hown3 bw34
  have O4 : Hid (w4.ownsRow w3.heap.size 47 3 (.slice (some ⟨w3.heap.size, 0, none⟩) N N) N _) := hown4
  have bw24 : Below w2.heap.size w2 w4 := bw23.trans (bw34.mono bw23.size)
  clear hown3 hown4 hgrow3 hgrow4 bw34 bw23
  go_loopw [8] (fun i wr => ∃ (k : Nat) (xs ys : List Value), k ≤ N ∧ i = .int .i64 k ∧ wr.ownsRow w2.heap.size 34 2 (.slice (some ⟨w2.heap.size, 0, none⟩) N N) N xs ∧ wr.ownsRow w3.heap.size 47 3 (.slice (some ⟨w3.heap.size, 0, none⟩) N N) N ys ∧ Hid (SegOk k xs) ∧ Hid (VarOk k ys) ∧ Below w2.heap.size w2 wr) (fun i _ => N - (intOf i).toNat)
  case atStart => exact ⟨0, _, _, Nat.zero_le _, rfl, O3.out, O4.out, fun i hi => by omega, fun i hi => by omega, bw24⟩
  case round =>
    clear O3 O4 bw24
    obtain ⟨k, xs, ys, hk, rfl, hox, hoy, hsx, hvy, hbel⟩ := hrel
    by_cases hlt : k < N
    · have lx := hox.1
      have ly := hoy.1
      obtain ⟨x0, cx0⟩ : ∃ y, wr.cell? ⟨w2.heap.size, k * 2, none⟩ = some y := ⟨_, (hox.cellAt (k * 2) (by omega)).trans (List.getElem?_eq_getElem (by omega))⟩
      obtain ⟨x1, cx1⟩ : ∃ y, wr.cell? ⟨w2.heap.size, k * 2 + 1, none⟩ = some y := ⟨_, (hox.cellAt (k * 2 + 1) (by omega)).trans (List.getElem?_eq_getElem (by omega))⟩
      obtain ⟨y0, cy0⟩ : ∃ y, wr.cell? ⟨w3.heap.size, k * 3, none⟩ = some y := ⟨_, (hoy.cellAt (k * 3) (by omega)).trans (List.getElem?_eq_getElem (by omega))⟩
      obtain ⟨y1, cy1⟩ : ∃ y, wr.cell? ⟨w3.heap.size, k * 3 + 1, none⟩ = some y := ⟨_, (hoy.cellAt (k * 3 + 1) (by omega)).trans (List.getElem?_eq_getElem (by omega))⟩
      obtain ⟨y2, cy2⟩ : ∃ y, wr.cell? ⟨w3.heap.size, k * 3 + 2, none⟩ = some y := ⟨_, (hoy.cellAt (k * 3 + 2) (by omega)).trans (List.getElem?_eq_getElem (by omega))⟩
      have fx0 := hox.frozenAt (k * 2)
      have fx1 := hox.frozenAt (k * 2 + 1)
      have fy0 := hoy.frozenAt (k * 3)
      have fy1 := hoy.frozenAt (k * 3 + 1)
      have fy2 := hoy.frozenAt (k * 3 + 2)
      have hne : w3.heap.size ≠ w2.heap.size := by omega
      have HS : Hid _ := segOk_next hsx.out (by omega)
      have HV : Hid _ := varOk_next (u := .slice none 0 0) hvy.out (by omega)
      go_wp2_with fail
      refine ⟨⟨k + 1, _, _, by omega, by go_num, owns5x hox (by omega), owns5y hoy (by omega), HS.out, HV.out, ?_⟩, ?_⟩
      · exact ((((hbel.setCell (Nat.le_refl _) _).setCell (Nat.le_refl _) _).setCell (Nat.le_of_lt hlt23) _).setCell (Nat.le_of_lt hlt23) _).setCell (Nat.le_of_lt hlt23) _
      · simp [intOf]; omega
    · obtain rfl : k = N := by omega
      have HS : Hid (∀ i, i < k → wr.cell? ⟨w2.heap.size, i * 2, none⟩ = some (.int .i64 1) ∧ wr.cell? ⟨w2.heap.size, i * 2 + 1, none⟩ = some (.string ByteArray.empty)) := fun i hi => ⟨(hox.cellAt _ (by omega)).trans (hsx.out i hi).1, (hox.cellAt _ (by omega)).trans (hsx.out i hi).2⟩
      have HV : Hid (∀ i, i < k → wr.cell? ⟨w3.heap.size, i * 3 + 1, none⟩ = some (.int .i64 i) ∧ wr.cell? ⟨w3.heap.size, i * 3 + 2, none⟩ = some (.int .i64 (i + 1))) := fun i hi => ⟨(hoy.cellAt _ (by omega)).trans (hvy.out i hi).1, (hoy.cellAt _ (by omega)).trans (hvy.out i hi).2⟩
      have hl2 : w2.heap.size < wr.heap.size := ownsRow_lt hox _ rfl
      have hl3 : w3.heap.size < wr.heap.size := ownsRow_lt hoy _ rfl
      clear hox hoy hsx hvy
      go_wp2_with fail
      go_loop [10, 11] (fun b i => ∃ j : Nat, j ≤ ts.length ∧ i = .int .i64 j ∧ b = .bool (ts.length == k && (ts.take j).all (fun t => t.size != 0))) (fun _ i => ts.length - (intOf i).toNat)
      case atStart => exact ⟨0, Nat.zero_le _, rfl, congrArg Value.bool (by rw [Bool.eq_iff_iff]; simp only [List.take_zero, List.all_nil, Bool.and_true, beq_iff_eq]; omega)⟩
      case round =>
        obtain ⟨j, hj, rfl, rfl⟩ := hrel
        by_cases hjl : j < ts.length
        · obtain ⟨b, off, ha, hc0⟩ := row_str Q1'.out j hjl
          subst ha
          have hbb := cell_lt hc0
          simp only at hbb
          have hcell : wr.cell? ⟨b, off + j, none⟩ = some (.string ts[j]) := (hbel.cell hbb).trans hc0
          have hbw : b < wr.heap.size := by omega
          have HT : Hid (_ = _) := List.take_succ_eq_append_getElem hjl
          generalize ts[j] = x at *
          by_cases he : x.size = 0
          · have hee : x.toList.isEmpty = true := isEmpty_yes he
            go_wp2_with fail
            go_round
            case rel => exact ⟨j + 1, by omega, by go_num, congrArg Value.bool (all_yes HT.out he)⟩
            case measure => simp [intOf]; omega
          · have hee : x.toList.isEmpty = false := isEmpty_no he
            go_wp2_with fail
            go_round
            case rel => exact ⟨j + 1, by omega, by go_num, congrArg Value.bool (all_no HT.out he)⟩
            case measure => simp [intOf]; omega
        · have HM : Hid ((ts.length == k && (ts.take j).all (fun t => t.size != 0)) = matchB k ts) := by rw [List.take_of_length_le (by omega)]; rfl
          rw [HM.out]
          go_wp2_with fail
          have T0 : Hid ((wr.alloc (.cells #[.slice (some ⟨w2.heap.size, 0, none⟩) k k, .slice (some ⟨w3.heap.size, 0, none⟩) k k, .string ⟨#[]⟩] 38)).cell? ⟨wr.heap.size, 0, none⟩ = some (.slice (some ⟨w2.heap.size, 0, none⟩) k k)) := by rw [World.cell?_alloc_at (hn := rfl)]; rfl
          have T1 : Hid ((wr.alloc (.cells #[.slice (some ⟨w2.heap.size, 0, none⟩) k k, .slice (some ⟨w3.heap.size, 0, none⟩) k k, .string ⟨#[]⟩] 38)).cell? ⟨wr.heap.size, 1, none⟩ = some (.slice (some ⟨w3.heap.size, 0, none⟩) k k)) := by rw [World.cell?_alloc_at (hn := rfl)]; rfl
          have T2 : Hid ((wr.alloc (.cells #[.slice (some ⟨w2.heap.size, 0, none⟩) k k, .slice (some ⟨w3.heap.size, 0, none⟩) k k, .string ⟨#[]⟩] 38)).cell? ⟨wr.heap.size, 2, none⟩ = some (.string ByteArray.empty)) := by rw [World.cell?_alloc_at (hn := rfl)]; rfl
          have bA : Below wr.heap.size wr (wr.alloc (.cells #[.slice (some ⟨w2.heap.size, 0, none⟩) k k, .slice (some ⟨w3.heap.size, 0, none⟩) k k, .string ⟨#[]⟩] 38)) := (Below.refl _ _).alloc (Nat.le_refl _) _
          have hsA : wr.heap.size < (wr.alloc (.cells #[.slice (some ⟨w2.heap.size, 0, none⟩) k k, .slice (some ⟨w3.heap.size, 0, none⟩) k k, .string ⟨#[]⟩] 38)).heap.size := by simp
          generalize wr.alloc (.cells #[.slice (some ⟨w2.heap.size, 0, none⟩) k k, .slice (some ⟨w3.heap.size, 0, none⟩) k k, .string ⟨#[]⟩] 38) = w5 at *
          refine (zzPath _ _ _ _ _).mono ?_
          rintro e w6 ⟨rfl, b6⟩
          have bB : Below wr.heap.size wr w6 := bA.trans (b6.mono (Nat.le_of_lt hsA))
          have T0' : Hid (w6.cell? ⟨wr.heap.size, 0, none⟩ = some (.slice (some ⟨w2.heap.size, 0, none⟩) k k)) := (b6.cell (p := ⟨wr.heap.size, 0, none⟩) hsA).trans T0.out
          have T1' : Hid (w6.cell? ⟨wr.heap.size, 1, none⟩ = some (.slice (some ⟨w3.heap.size, 0, none⟩) k k)) := (b6.cell (p := ⟨wr.heap.size, 1, none⟩) hsA).trans T1.out
          have T2' : Hid (w6.cell? ⟨wr.heap.size, 2, none⟩ = some (.string ByteArray.empty)) := (b6.cell (p := ⟨wr.heap.size, 2, none⟩) hsA).trans T2.out
          have HS6 : Hid (∀ i, i < k → w6.cell? ⟨w2.heap.size, i * 2, none⟩ = some (.int .i64 1) ∧ w6.cell? ⟨w2.heap.size, i * 2 + 1, none⟩ = some (.string ByteArray.empty)) := fun i hi => ⟨(bB.cell (p := ⟨w2.heap.size, i * 2, none⟩) hl2).trans (HS.out i hi).1, (bB.cell (p := ⟨w2.heap.size, i * 2 + 1, none⟩) hl2).trans (HS.out i hi).2⟩
          have HV6 : Hid (∀ i, i < k → w6.cell? ⟨w3.heap.size, i * 3 + 1, none⟩ = some (.int .i64 i) ∧ w6.cell? ⟨w3.heap.size, i * 3 + 2, none⟩ = some (.int .i64 (i + 1))) := fun i hi => ⟨(bB.cell (p := ⟨w3.heap.size, i * 3 + 1, none⟩) hl3).trans (HV.out i hi).1, (bB.cell (p := ⟨w3.heap.size, i * 3 + 2, none⟩) hl3).trans (HV.out i hi).2⟩
          have b26 : Below w2.heap.size w2 w6 := hbel.trans (bB.mono hbel.size)
          have Q26 : Hid (RowAt w6 a2 (ts.map Value.string)) := Q2.out.below b26
          have Q16 : Hid (RowAt w6 a1 (ts.map Value.string)) := Q1'.out.below b26
          have BB6 : Below w.heap.size w w6 := BB2.trans (b26.mono BB2.size)
          have hbt6 : wr.heap.size < w6.heap.size := Nat.lt_of_lt_of_le hsA b6.size
          clear T0 T1 T2 HS HV bA b6 Q2 Q1' BB2 hsA HM bB b26 hbel
          go_wp2_with fail
          refine (matchW wr.heap.size w2.heap.size w3.heap.size k k k a2 c2 ts w6 T0'.out T1'.out T2'.out HS6.out HV6.out Q26.out hc2 hm2 hN1 hN2 Y1.out B1.out).mono ?_
          rintro e w7 ⟨⟨v, rfl, hF, hT⟩, b7⟩
          have hF : Hid _ := hF
          have hT : Hid _ := hT
          have BB7 : Below w.heap.size w w7 := BB6.trans (b7.mono BB6.size)
          cases hm : matchB k ts
          · obtain rfl := hF.out hm
            go_wp2_with fail
            go_ret
            exact ⟨rfl, BB7⟩
          · obtain ⟨zs, ho, hv⟩ := hT.out hm
            obtain ⟨g, gc, rfl⟩ := owns_form' ho hN1
            have hlen : ts.length = k := by unfold matchB at hm; simp only [Bool.and_eq_true, beq_iff_eq] at hm; exact hm.1
            have HO : Hid (w7.ownsRow w6.heap.size 50 2 (.slice (some ⟨g, 0, none⟩) k gc) k zs) := ho
            have HVV : Hid (Vals w3.heap.size ts k zs) := hv
            have Q17 : Hid (RowAt w7 a1 (ts.map Value.string)) := Q16.out.below b7
            have T17 : Hid (w7.cell? ⟨wr.heap.size, 1, none⟩ = some (.slice (some ⟨w3.heap.size, 0, none⟩) k k)) := (b7.cell (p := ⟨wr.heap.size, 1, none⟩) hbt6).trans T1'.out
            have hbt7 : wr.heap.size < w7.heap.size := Nat.lt_of_lt_of_le hbt6 b7.size
            clear ho hv hm hF hT Q26 Q16 T0' T1' T2' HS6 HV6 b7 BB6
            go_wp2_with fail
            generalize wr.heap.size = bt at *
            generalize w3.heap.size = g2 at *
            have hg7 : g < w7.heap.size := ownsRow_lt HO.out _ rfl
            go_loopw [14] (fun i wr' => ∃ j : Nat, j ≤ k ∧ i = .int .i64 j ∧ Below w7.heap.size w7 wr') (fun i _ => k - (intOf i).toNat)
            case atStart => exact ⟨0, Nat.zero_le _, rfl, Below.refl _ _⟩
            case round =>
              obtain ⟨j, hj, rfl, hbel⟩ := hrel
              have hbs := hbel.size
              by_cases hlt : j < k
              · obtain ⟨b, off, ha, hc0⟩ := row_str Q17.out j (by omega)
                subst ha
                have hbb := cell_lt hc0
                simp only at hbb
                have hjt : j < ts.length := by omega
                have cv1 : wr.cell? ⟨g, j * 2, none⟩ = some (.pointer (some ⟨g2, j * 3, none⟩)) := (hbel.cell (p := ⟨g, j * 2, none⟩) hg7).trans ((HO.out.cellAt _ (by omega)).trans (HVV.out j hlt).1)
                have cv2 : wr.cell? ⟨g, j * 2 + 1, none⟩ = some (.string (decB ts[j])) := (hbel.cell (p := ⟨g, j * 2 + 1, none⟩) hg7).trans ((HO.out.cellAt _ (by omega)).trans ((HVV.out j hlt).2 _ (List.getElem?_eq_getElem hjt)))
                have ct : wr.cell? ⟨bt, 1, none⟩ = some (.slice (some ⟨g2, 0, none⟩) k k) := (hbel.cell (p := ⟨bt, 1, none⟩) hbt7).trans T17.out
                have cx : wr.cell? ⟨b, off + j, none⟩ = some (.string ts[j]) := (hbel.cell (p := ⟨b, off + j, none⟩) hbb).trans hc0
                have hzj := Y1.out ts[j] (List.getElem_mem hjt)
                have hwj := B1.out ts[j] (List.getElem_mem hjt)
                generalize ts[j] = x at *
                have hbr : b < wr.heap.size := by omega
                have hgr : g < wr.heap.size := by omega
                clear hc0
                have hneq : ∀ w', (binOp .neq 48 (.pointer (some ⟨g2, j * 3, none⟩)) (.pointer (some ⟨g2, j * 3, none⟩))).run Try.prog w' = .ok (.bool false) w' := fun w' => neq_ptr_same _ Try.underlying48 hi2 w'
                go_wp2_with fail
                go_quiet (fail)
                go_wp2_with fail
                go_cut [125] from 98 to 125 (fun u wx => u = .bool false ∧ Below w7.heap.size w7 wx)
                case first =>
                  go_region_with (go_at_call 23; refine (decodeB x _ hzj hwj).mono ?_; rintro e wd ⟨rfl, hbd⟩; have kv := (hbd.cell (p := ⟨g, j * 2 + 1, none⟩) (by simpa using hgr)).trans cv2)
                  all_goals (try go_wp2_with fail)
                  all_goals go_meet
                  all_goals exact ⟨rfl, hbel.trans (⟨hbd.os, hbd.tape, hbd.output, hbd.size, fun q hq => hbd.block q (Nat.lt_of_lt_of_le hq hbs)⟩ : Below w7.heap.size wr wd)⟩
                case rest =>
                  obtain ⟨rfl, hbc⟩ := hcut
                  go_wp2_with fail
                  go_roundw
                  case rel => first | exact ⟨j + 1, by omega, by go_num, hbc⟩ | ((repeat apply Exists.intro); exact ⟨⟨j + 1, by omega, by go_num, hbc⟩, rfl⟩)
                  case measure => simp [intOf]; omega
              · go_wp2_with fail
                go_ret
                exact ⟨rfl, BB7.trans (hbel.mono BB7.size)⟩

end Go.Proofs.Qxb6001154a
