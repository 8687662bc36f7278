import Derived.Test.Qxb6612778aBase
import Derived.Deep.RegionWith
namespace Go.Proofs.Qxb6612778a
open Go.RowKit

theorem xor_of : ∀ c : Nat, c < 256 → bits BinOp.xor IntKind.u8 (c : Int) 32 = ((c ^^^ 32 : Nat) : Int) := by decide +kernel
theorem or_of : ∀ c : Nat, c < 256 → bits BinOp.or IntKind.u8 (c : Int) 32 = ((c ||| 32 : Nat) : Int) := by decide +kernel
theorem xor_lt : ∀ c : Nat, c < 256 → (c ^^^ 32) < 256 := by decide +kernel
theorem letter : ∀ c : Nat, c < 256 → 97 ≤ (c ||| 32) → (c ||| 32) ≤ 122 → (unres c && unres (c ^^^ 32)) = true := by decide +kernel
theorem other : ∀ c : Nat, c < 256 → ¬ (97 ≤ (c ||| 32) ∧ (c ||| 32) ≤ 122) → (unres c && unres (c ^^^ 32)) = false := by decide +kernel

theorem zzu_at (c : Nat) (u : Bool) (hc : c < 256) (hu : unres c = u) (w : World) :
    Calls Try.prog 5 #[.int .u8 (c : Int)] w fun e w' => e = .returned (.bool u) ∧ w' = w := by
  subst hu; exact zzunreserved c hc w

set_option maxHeartbeats 400000 in
theorem pairs (c : Nat) (hc : c < 256) (w : World) :
    Calls Try.prog 3 #[.int .u8 (c : Int)] w fun e w' => e = .returned (.bool true) ∧ w' = w := by
  have hx := xor_of c hc
  have ho := or_of c hc
  have HD : Hid (_ < _) := xor_lt c hc
  have HL : Hid (_ → _) := letter c hc
  have HO : Hid (_ → _) := other c hc
  generalize hd : c ^^^ 32 = d at *
  generalize hl : c ||| 32 = l at *
  clear hd hl
  generalize hu : unres c = u at *
  have HU : Hid (unres c = u) := hu
  clear hu
  generalize hv : unres d = v at *
  have HV : Hid (unres d = v) := hv
  clear hv
  cases u <;> cases v
  all_goals
    go_enter Try.func3, Try.ntmps3
    go_wp2_with (first | (go_at_call_of 5 (Value.int .u8 (c : Int)); refine (zzu_at c _ hc HU.out _).mono ?_; rintro e w' ⟨rfl, rfl⟩) | (go_at_call_of 5 (Value.int .u8 (d : Int)); refine (zzu_at d _ HD.out HV.out _).mono ?_; rintro e w' ⟨rfl, rfl⟩))
    all_goals go_ret
    all_goals first | exact ⟨rfl, rfl⟩ | (refine ⟨?_, rfl⟩; exfalso; first | exact absurd (HL.out (by omega) (by omega)) (by decide) | exact absurd (HO.out (by omega)) (by decide))

end Go.Proofs.Qxb6612778a
