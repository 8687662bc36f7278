import Derived.Test.Qxb6612460aGreatFmtPickP
import Derived.Lib.SliceRun
namespace Go.Proofs.Qxb6612460aGreatFmt
open Go.RowKit Go.Sort
attribute [local go_sem] sUpon mUpon

attribute [local go_sem] Option.isNone_none Option.isNone_some
theorem below_alloc1 (w : World) (o : Obj) : Below w.heap.size w (w.alloc o) := (Below.refl _ _).alloc (Nat.le_refl _) _

set_option maxRecDepth 100000 in
set_option maxHeartbeats 2000000 in
theorem pick_cpu (b : Nat) (cpu mem rc rm : Int) (k : Nat) (across : Bool) (ps : List (Nat × Bool)) (fr : List Nat) (w : World) (hB : BooksAt w b cpu mem ps fr) (hc0 : 0 ≤ cpu) (hc1 : cpu ≤ 9223372036854775807) (hm0 : 0 ≤ mem) (hm1 : mem ≤ 9223372036854775807) (h : cpu < rc ∨ mem < rm) :
    Calls Tryz.prog 38 #[.pointer (some ⟨b, 0, none⟩), reqV rc rm k 0, .bool across] w fun e w' => e = .returned (.tuple #[.slice none 0 0, .bool false]) ∧ Below w.heap.size w w' := by
  unfold reqV
  have HB : Hid (BooksAt w b cpu mem ps fr) := hB
  have c1 := hB.c1
  have c2 := hB.c2
  have c6 := hB.c6
  have c7 := hB.c7
  have c11 := hB.c11
  clear hB
  have hlt := cell_lt c1
  simp only at hlt
  by_cases a1 : cpu < rc
  · have d1 : decide (cpu < rc) = true := by simp [a1]
    go_enter Tryz.func38, Tryz.ntmps38
    go_wp2_with fail
    go_quiet (fail)
    go_wp2_with fail
    go_ret2
    exact ⟨rfl, below_drewN (below_alloc1 _ _) _⟩
  · have d1 : decide (cpu < rc) = false := by simp; omega
    have d2 : decide (mem < rm) = true := by simp; omega
    go_enter Tryz.func38, Tryz.ntmps38
    go_wp2_with fail
    go_quiet (fail)
    go_wp2_with fail
    go_ret2
    exact ⟨rfl, below_drewN (below_alloc1 _ _) _⟩

set_option maxRecDepth 100000 in
set_option maxHeartbeats 2000000 in
theorem pick_many (b : Nat) (cpu mem rc rm : Int) (k : Nat) (across : Bool) (ps : List (Nat × Bool)) (fr : List Nat) (w : World) (hB : BooksAt w b cpu mem ps fr) (hc0 : 0 ≤ cpu) (hc1 : cpu ≤ 9223372036854775807) (hm0 : 0 ≤ mem) (hm1 : mem ≤ 9223372036854775807) (h : ¬ (cpu < rc ∨ mem < rm)) (hk : sumN fr < k) :
    Calls Tryz.prog 38 #[.pointer (some ⟨b, 0, none⟩), reqV rc rm k 0, .bool across] w fun e w' => e = .returned (.tuple #[.slice none 0 0, .bool false]) ∧ Below w.heap.size w w' := by
  unfold reqV
  have HB : Hid (BooksAt w b cpu mem ps fr) := hB
  have c1 := hB.c1
  have c2 := hB.c2
  have c6 := hB.c6
  have c7 := hB.c7
  have c11 := hB.c11
  clear hB
  have hlt := cell_lt c1
  simp only at hlt
  have d1 : decide (cpu < rc) = false := by simp; omega
  have d2 : decide (mem < rm) = false := by simp; omega
  have d3 : decide (sumN fr < k) = true := by simp; omega
  go_enter Tryz.func38, Tryz.ntmps38
  go_wp2_with fail
  go_quiet (fail)
  go_wp2_with fail
  go_quiet (fail)
  go_wp2_with fail
  go_ret2
  exact ⟨rfl, below_drewN (below_drewN (below_alloc1 _ _) _) _⟩

set_option maxRecDepth 100000 in
set_option maxHeartbeats 2000000 in
theorem pick_none (b : Nat) (cpu mem rc rm : Int) (k : Nat) (across : Bool) (ps : List (Nat × Bool)) (fr : List Nat) (w : World) (hB : BooksAt w b cpu mem ps fr) (hc0 : 0 ≤ cpu) (hc1 : cpu ≤ 9223372036854775807) (hm0 : 0 ≤ mem) (hm1 : mem ≤ 9223372036854775807) (h : ¬ (cpu < rc ∨ mem < rm)) (hk : k ≤ sumN fr) (hk0 : 0 < k) (ha : across = false) (hfl : fr.length ≤ 65536) (hno : ∀ i, i < fr.length → fr[i]?.getD 0 < k) :
    Calls Tryz.prog 38 #[.pointer (some ⟨b, 0, none⟩), reqV rc rm k 0, .bool across] w fun e w' => e = .returned (.tuple #[.slice none 0 0, .bool false]) ∧ Below w.heap.size w w' := by
  subst ha
  unfold reqV
  have HB : Hid (BooksAt w b cpu mem ps fr) := hB
  have c1 := hB.c1
  have c2 := hB.c2
  have c6 := hB.c6
  have c7 := hB.c7
  have c11 := hB.c11
  clear hB
  have hlt := cell_lt c1
  simp only at hlt
  have d1 : decide (cpu < rc) = false := by simp; omega
  have d2 : decide (mem < rm) = false := by simp; omega
  have d3 : decide (sumN fr < k) = false := by simp; omega
  have d4 : decide (0 < k) = true := by simp; omega
  go_enter Tryz.func38, Tryz.ntmps38
  go_wp2_with fail
  go_quiet (fail)
  go_wp2_with fail
  go_quiet (fail)
  go_wp2_with fail
  refine (tightestIsland b k fr _ (HB.out.free.below (below_drewN (below_alloc1 _ _) _)) hfl).mono ?_
  rintro e w1 ⟨⟨r, rfl, hT⟩, hb1⟩
  have hb1' : Below w.heap.size w w1 := (below_drewN (below_alloc1 _ _) _).trans (hb1.mono (by simp))
  rcases hT with ⟨rfl, -⟩ | ⟨i, hi, -, h2⟩
  · clear hb1
    go_wp2_with fail
    go_ret2
    exact ⟨rfl, hb1'⟩
  · have := hno i hi
    omega

end Go.Proofs.Qxb6612460aGreatFmt
