import Derived.Test.Qxb6612778aRows
import Derived.WalkKit
import Derived.WalkSpells
import Derived.WalkLawsBesides
import Derived.Lib.Bytealg
namespace Go.Proofs.Qxb6612778a
open Go.RowKit

set_option maxHeartbeats 400000 in
theorem indexByte_lite (s : ByteArray) (c : Int) (w : World) :
    Calls Try.prog 8 #[.string s, .int .u8 c] w fun e w' => e = .returned (.int .i64 (Lib.indexByte s.data.toList c.toNat.toUInt8)) ∧ w' = w := by
  go_enter Try.func8, Try.ntmps8
  go_wp2
  rw [run_callFunc_extern Try.func9 (by kernel_rfl) (by kernel_rfl) (by kernel_rfl) (e := Extern.BytealgIndexByte.indexByte) (by kernel_rfl), Lib.run_indexByteString]
  simp only [Result.andThen]
  rw [Oper.upon_value]
  go_wp2
  go_ret
  exact ⟨rfl, rfl⟩

set_option maxHeartbeats 400000 in
theorem indexByte (s : ByteArray) (c : Int) (w : World) :
    Calls Try.prog 7 #[.string s, .int .u8 c] w fun e w' => e = .returned (.int .i64 (Lib.indexByte s.data.toList c.toNat.toUInt8)) ∧ w' = w := by
  go_enter Try.func7, Try.ntmps7
  go_wp2_with (go_at_call 8; refine (indexByte_lite _ _ _).mono ?_; rintro e w' ⟨rfl, rfl⟩)
  go_ret
  exact ⟨rfl, rfl⟩

def unres (c : Nat) : Bool := (97 ≤ c && c ≤ 122) || (65 ≤ c && c ≤ 90) || (48 ≤ c && c ≤ 57) || c == 45 || c == 46 || c == 95 || c == 126

theorem ix_small (c : Nat) (h : c < 256) : decide ((0 : Int) ≤ Lib.indexByte [45, 46, 95, 126] c.toUInt8) = (c == 45 || c == 46 || c == 95 || c == 126) := by
  revert h; revert c; decide +kernel

theorem ret_bool {a b : Bool} (h : a = b) : Ending.returned (.bool a) = .returned (.bool b) := by rw [h]

theorem ix_of (c : Nat) (h : c < 256) : decide ((0 : Int) ≤ Lib.indexByte [45, 46, 95, 126] (UInt8.ofNat c)) = (c == 45 || c == 46 || c == 95 || c == 126) := ix_small c h

set_option maxHeartbeats 400000 in
theorem unreserved (c : Nat) (hc : c < 256) (w : World) :
    Calls Try.prog 6 #[.int .u8 (c : Int)] w fun e w' => e = .returned (.bool (unres c)) ∧ w' = w := by
  have HX : Hid (_ = _) := ix_of c hc
  go_enter Try.func6, Try.ntmps6
  go_wp2_with (go_at_call 7; refine (indexByte _ _ _).mono ?_; rintro e w' ⟨rfl, rfl⟩)
  all_goals
    go_ret
    refine ⟨ret_bool ?_, rfl⟩
    try rw [HX.out]
    rw [Bool.eq_iff_iff]
    simp [unres]
    try omega

set_option maxHeartbeats 400000 in
theorem zzunreserved (c : Nat) (hc : c < 256) (w : World) :
    Calls Try.prog 5 #[.int .u8 (c : Int)] w fun e w' => e = .returned (.bool (unres c)) ∧ w' = w := by
  go_enter Try.func5, Try.ntmps5
  go_wp2_with (go_at_call 6; refine (unreserved _ hc _).mono ?_; rintro e w' ⟨rfl, rfl⟩)
  go_ret
  exact ⟨rfl, rfl⟩

end Go.Proofs.Qxb6612778a
