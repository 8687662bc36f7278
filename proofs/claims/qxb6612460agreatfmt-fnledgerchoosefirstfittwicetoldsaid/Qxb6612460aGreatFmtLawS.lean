import Derived.Test.Qxb6612460aGreatFmtLawP
namespace Go.Proofs.Qxb6612460aGreatFmt
open Go.RowKit Go.Sort
attribute [local go_sem] Option.isNone_none Option.isNone_some
attribute [local go_sem] sUpon mUpon
attribute [local go_sem] Mix.isVal Mix.makes

theorem eql34_zero (w : World) : (binOp .eql 34 (.agg #[.int .i64 0, .int .i64 0, .int .i64 0, .int .i64 0, .int .i64 0, .int .i64 0, .bool false, .string ⟨#[]⟩]) (.agg #[.int .i64 0, .int .i64 0, .int .i64 0, .int .i64 0, .int .i64 0, .int .i64 0, .bool false, .string ⟨#[]⟩])).run Tryz.prog w = .ok (.bool true) w := by kernel_rfl

set_option maxRecDepth 100000 in
theorem zzRefused_yes (w : World) :
    Calls Tryz.prog 15 #[grantV 0 (.slice none 0 0) 0 0 0, .int .i64 0, .bool false] w fun e w' => e = .returned (.bool true) ∧ Below w.heap.size w w' := by
  unfold grantV
  have q23 : ∀ (w : World), (binOp .eql 23 (.slice none 0 0) (.slice none 0 0)).run Tryz.prog w = .ok (.bool true) w := fun w => Lib.run_eql_slice_nil w _ _ none 0 0 0 0 Tryz.underlying23
  have q34 := eql34_zero
  go_enter Tryz.func15, Tryz.ntmps15
  go_wp2_with fail
  go_ret
  exact ⟨rfl, (Below.refl _ _).alloc (Nat.le_refl _) _⟩

/-- Some Boolean; where it is true, each string is short; nothing turns. -/
def BoolPost (is : List ByteArray) (w : World) (e : Ending) (w' : World) : Prop := (∃ bv, e = .returned (.bool bv) ∧ (bv = true → ∀ (i : Nat) x, is[i]? = some x → x.size ≤ 1048576)) ∧ w = w'
theorem boolPost_no (is : List ByteArray) (w : World) : BoolPost is w (.returned (.bool false)) w := ⟨⟨false, rfl, fun h => by cases h⟩, rfl⟩
theorem boolPost_yes {is : List ByteArray} (w : World) (h : ∀ (i : Nat) x, is[i]? = some x → x.size ≤ 1048576) : BoolPost is w (.returned (.bool true)) w := ⟨⟨true, rfl, fun _ => h⟩, rfl⟩

set_option maxRecDepth 100000 in
set_option maxHeartbeats 1000000 in
theorem zzBytes (cpu mem rc rm rg : Int) (across : Bool) (ai au : Option Addr) (ci cu : Nat) (is : List ByteArray) (us : List Bool) (w : World) (hI : RowAt w ai (is.map Value.string)) (hl : is.length ≤ 9223372036854775807) (hlu : us.length ≤ 9223372036854775807) (hsz : ∀ s ∈ is, s.size ≤ 9223372036854775807) :
    Calls Tryz.prog 14 #[.int .i64 cpu, .int .i64 mem, .slice ai is.length ci, .slice au us.length cu, .int .i64 rc, .int .i64 rm, .int .i64 rg, .bool across] w (BoolPost is w) := by
  have HI : Hid _ := hI
  have HSZ : Hid _ := hsz
  clear hI hsz
  by_cases h1 : 1048576 < is.length
  · have d1 : decide ((1048576 : Int) < ((is.length : Nat) : Int)) = true := by simp; omega
    go_enter Tryz.func14, Tryz.ntmps14
    go_wp2_with fail
    go_ret
    exact boolPost_no _ _
  have d1 : decide ((1048576 : Int) < ((is.length : Nat) : Int)) = false := by simp; omega
  go_enter Tryz.func14, Tryz.ntmps14
  go_wp2_with fail
  go_loop [17, 18] (fun sv iv => ∃ (j s : Nat), j ≤ is.length ∧ iv = .int .i64 j ∧ sv = .int .i64 s ∧ s ≤ 1048576 ∧ Hid (∀ (i : Nat) x, i < j → is[i]? = some x → x.size ≤ 1048576)) (fun _ iv => is.length - (intOf iv).toNat)
  case atStart => exact ⟨0, is.length, Nat.zero_le _, rfl, rfl, by omega, fun i x hi => by omega⟩
  case round =>
    obtain ⟨j, s, hj, rfl, rfl, hs, HSM⟩ := hrel
    by_cases hjl : j < is.length
    · obtain ⟨g, off, ha, hc⟩ := row_str HI.out j hjl
      subst ha
      have hz := HSZ.out is[j] (List.getElem_mem hjl)
      have HJJ : Hid (is[j]? = some is[j]) := List.getElem?_eq_getElem hjl
      generalize is[j] = x at *
      by_cases h2 : 1048576 < x.size
      · have d2 : decide ((1048576 : Int) < ((x.size : Nat) : Int)) = true := by simp; omega
        go_wp2_with fail
        go_ret
        exact boolPost_no _ _
      have d2 : decide ((1048576 : Int) < ((x.size : Nat) : Int)) = false := by simp; omega
      by_cases h3 : 1048576 < s + x.size
      · have d3 : decide (1048576 < s + x.size) = true := by simp [h3]
        have d3' : decide ((1048576 : Int) < (s : Int) + (x.size : Int)) = true := by simp; omega
        go_wp2_with fail
        go_ret
        exact boolPost_no _ _
      · have d3 : decide (1048576 < s + x.size) = false := by simp; omega
        have d3' : decide ((1048576 : Int) < (s : Int) + (x.size : Int)) = false := by simp; omega
        have HSN : Hid (∀ (i : Nat) y, i < j + 1 → is[i]? = some y → y.size ≤ 1048576) := fun i y hi hy => by
          rcases Nat.lt_or_ge i j with h | h
          · exact HSM.out i y h hy
          · obtain rfl : i = j := by omega
            rw [HJJ.out] at hy
            cases hy
            omega
        go_wp2_with fail
        go_round
        case rel => exact ⟨j + 1, s + x.size, by omega, by go_num, by go_num, by omega, HSN.out⟩
        case measure => simp [intOf]; omega
    · obtain rfl : j = is.length := by omega
      by_cases h2 : 1048576 < us.length
      · have d2 : decide ((1048576 : Int) < ((us.length : Nat) : Int)) = true := by simp; omega
        go_wp2_with fail
        go_ret
        exact boolPost_no _ _
      have d2 : decide ((1048576 : Int) < ((us.length : Nat) : Int)) = false := by simp; omega
      by_cases h3 : 1048576 < s + us.length
      · have d3 : decide (1048576 < s + us.length) = true := by simp [h3]
        have d3' : decide ((1048576 : Int) < (s : Int) + (us.length : Int)) = true := by simp; omega
        go_wp2_with fail
        go_ret
        exact boolPost_no _ _
      · have d3 : decide (1048576 < s + us.length) = false := by simp; omega
        have d3' : decide ((1048576 : Int) < (s : Int) + (us.length : Int)) = false := by simp; omega
        go_wp2_with fail
        go_ret
        exact boolPost_yes _ (fun i x hx => HSM.out i x ((List.getElem?_eq_some_iff.1 hx).1) hx)

end Go.Proofs.Qxb6612460aGreatFmt
