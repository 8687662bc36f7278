import Derived.Test.Qxb6612778aBase
import Derived.Deep.RegionWith
namespace Go.Proofs.Qxb6612778a
open Go.RowKit

def cnt : Nat → Nat
  | 0 => 0
  | k + 1 => cnt k + (if unres k = true then 1 else 0)
theorem cnt_all : cnt 256 = 66 := by decide +kernel
theorem cnt_le : ∀ k, cnt k ≤ k
  | 0 => Nat.le_refl _
  | k + 1 => by have := cnt_le k; unfold cnt; split <;> omega
theorem low : ∀ k, k < 256 → unres k = true → k < 128 := by decide +kernel
theorem cnt_yes (k : Nat) (h : unres k = true) : cnt (k + 1) = cnt k + 1 := by show cnt k + (if unres k = true then 1 else 0) = cnt k + 1; rw [if_pos h]
theorem cnt_no (k : Nat) (h : unres k = false) : cnt (k + 1) = cnt k := by show cnt k + (if unres k = true then 1 else 0) = cnt k; rw [if_neg (by rw [h]; decide)]; rfl

theorem wrap8 : ∀ k : Nat, k < 256 → IntKind.u8.wrap (k : Int) = (k : Int) := by decide +kernel

theorem zzu_at' (c : Nat) (u : Bool) (hc : c < 256) (hu : unres c = u) (w : World) :
    Calls Try.prog 5 #[.int .u8 (c : Int)] w fun e w' => e = .returned (.bool u) ∧ w' = w := by
  subst hu; exact zzunreserved c hc w

set_option maxRecDepth 100000 in
set_option maxHeartbeats 400000 in
theorem sixty (c : Nat) (hc : c < 256) (w : World) :
    Calls Try.prog 4 #[.int .u8 (c : Int)] w fun e w' => e = .returned (.bool true) ∧ w' = w := by
  generalize hu : unres c = u
  have HU : Hid (unres c = u) := hu
  have HC : Hid (u = true → c < 128) := by subst hu; exact low c hc
  clear hu
  go_enter Try.func4, Try.ntmps4
  go_wp2
  go_loop [3, 4] (fun n i => ∃ k : Nat, k ≤ 256 ∧ i = .int .i64 k ∧ n = .int .i64 (cnt k)) (fun _ i => 256 - (intOf i).toNat)
  case atStart => exact ⟨0, by omega, rfl, rfl⟩
  case round =>
    obtain ⟨k, hk, rfl, rfl⟩ := hrel
    have hcl := cnt_le k
    by_cases hlt : k < 256
    · generalize hv : unres k = v
      have HV : Hid (unres k = v) := hv
      have HL : Hid (v = true → k < 128) := by subst hv; exact low k hlt
      clear hv
      have hwr := wrap8 k hlt
      cases v
      · go_wp2_with (go_at_call 5; refine (zzu_at' k _ hlt HV.out _).mono ?_; rintro e w' ⟨rfl, rfl⟩)
        go_round
        case rel => exact ⟨k + 1, by omega, by go_num, by rw [cnt_no k HV.out]⟩
        case measure => simp [intOf]; omega
      · have h128 := HL.out rfl
        go_wp2_with (go_at_call 5; refine (zzu_at' k _ hlt HV.out _).mono ?_; rintro e w' ⟨rfl, rfl⟩)
        go_round
        case rel => exact ⟨k + 1, by omega, by go_num, by rw [cnt_yes k HV.out]; go_num⟩
        case measure => simp [intOf]; omega
    · obtain rfl : k = 256 := by omega
      have hca : (cnt 256 : Int) = 66 := by rw [cnt_all]; rfl
      clear hcl
      cases u
      · go_wp2_with (go_at_call 5; refine (zzu_at' c _ hc HU.out _).mono ?_; rintro e w' ⟨rfl, rfl⟩)
        all_goals go_ret
        all_goals exact ⟨rfl, rfl⟩
      · have := HC.out rfl
        go_wp2_with (go_at_call 5; refine (zzu_at' c _ hc HU.out _).mono ?_; rintro e w' ⟨rfl, rfl⟩)
        all_goals go_ret
        all_goals exact ⟨rfl, rfl⟩

end Go.Proofs.Qxb6612778a
