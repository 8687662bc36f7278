import Derived.Test.Qxb6001154aRows
import Derived.Test.Qxb6001154aPlain
import Derived.WalkKit
import Derived.WalkSpells
import Derived.WalkLawsBesides
import Derived.Lib.Bytealg
import Derived.Deep.RegionWith
namespace Go.Proofs.Qxb6001154a
open Go.RowKit

theorem ret_val {a b : Value} (h : a = b) : Ending.returned a = .returned b := by rw [h]
theorem ret_bool {a b : Bool} (h : a = b) : Ending.returned (.bool a) = .returned (.bool b) := by rw [h]
theorem tup_hex {a b : Int} {x y : Bool} (h : a = b) (k : x = y) : Ending.returned (.tuple #[.int .u8 a, .bool x]) = .returned (.tuple #[.int .u8 b, .bool y]) := by rw [h, k]

set_option maxHeartbeats 400000 in
theorem indexByte_lite (s : ByteArray) (c : Int) (w : World) :
    Calls Try.prog 54 #[.string s, .int .u8 c] w fun e w' => e = .returned (.int .i64 (Lib.indexByte s.data.toList c.toNat.toUInt8)) ∧ w' = w := by
  go_enter Try.func54, Try.ntmps54
  go_wp2
  rw [run_callFunc_extern Try.func58 (by kernel_rfl) (by kernel_rfl) (by kernel_rfl) (e := Extern.BytealgIndexByte.indexByte) (by kernel_rfl), Lib.run_indexByteString]
  simp only [Result.andThen]
  rw [Oper.upon_value]
  go_wp2
  go_ret
  exact ⟨rfl, rfl⟩

set_option maxHeartbeats 400000 in
theorem indexByte (s : ByteArray) (c : Int) (w : World) :
    Calls Try.prog 48 #[.string s, .int .u8 c] w fun e w' => e = .returned (.int .i64 (Lib.indexByte s.data.toList c.toNat.toUInt8)) ∧ w' = w := by
  go_enter Try.func48, Try.ntmps48
  go_wp2_with (go_at_call 54; refine (indexByte_lite _ _ _).mono ?_; rintro e w' ⟨rfl, rfl⟩)
  go_ret
  exact ⟨rfl, rfl⟩

set_option maxHeartbeats 400000 in
theorem hexVal (c : Nat) (hc : c < 256) (w : World) :
    Calls Try.prog 39 #[.int .u8 (c : Int)] w fun e w' => e = .returned (.tuple #[.int .u8 (Pl.hexV c : Int), .bool (Pl.hexB c)]) ∧ w' = w := by
  go_enter Try.func39, Try.ntmps39
  go_wp2
  all_goals go_ret2
  all_goals refine ⟨tup_hex ?_ ?_, rfl⟩
  all_goals
    go_tidy
    rcases Pl.hex_cases c with ⟨_, _, hv, hb⟩ | ⟨_, _, hv, hb⟩ | ⟨_, _, hv, hb⟩ | ⟨_, _, _, hv, hb⟩ <;> first | (exfalso; omega) | (rw [hv]; omega) | (rw [hb])

theorem unhexV (c : Nat) (hc : c < 256) (w : World) (hx : Pl.hexB c = true) :
    Calls Try.prog 49 #[.int .u8 (c : Int)] w fun e w' => e = .returned (.int .u8 (Pl.hexV c : Int)) ∧ w' = w := by
  have hx' : Hid ((48 ≤ c ∧ c ≤ 57) ∨ (97 ≤ c ∧ c ≤ 102) ∨ (65 ≤ c ∧ c ≤ 70)) := by simp [Pl.hexB] at hx; unfold Hid; omega
  clear hx
  go_enter Try.func49, Try.ntmps49
  go_wp2
  all_goals go_ret
  all_goals refine ⟨ret_val (congrArg (Value.int .u8) ?_), rfl⟩
  all_goals
    have hx := hx'.out
    go_tidy
    rcases Pl.hex_cases c with ⟨_, _, hv, hb⟩ | ⟨_, _, hv, hb⟩ | ⟨_, _, hv, hb⟩ | ⟨_, _, _, hv, hb⟩ <;> first | (exfalso; omega) | (rw [hv]; omega)

theorem hexVal_at (c : Nat) (b : Bool) (hc : c < 256) (hb : Pl.hexB c = b) (w : World) :
    Calls Try.prog 39 #[.int .u8 (c : Int)] w fun e w' => e = .returned (.tuple #[.int .u8 (Pl.hexV c : Int), .bool b]) ∧ w' = w := by
  subst hb; exact hexVal c hc w

theorem byte_eq {x : UInt8} {n : UInt8} (h : x = n) : ((x.toNat : Int) == (n.toNat : Int)) = true := by rw [h]; simp
theorem byte_ne {x : UInt8} {n : UInt8} (h : x ≠ n) : ((x.toNat : Int) == (n.toNat : Int)) = false := by
  simp only [beq_eq_false_iff_ne, ne_eq]; intro e; exact h (UInt8.toNat_inj.1 (Int.ofNat.inj e))
theorem len_list (s : ByteArray) : s.data.toList.length = s.size := by simp

/-- The bytes of s from place k on. -/
def from' (s : ByteArray) (k : Nat) : List UInt8 := s.data.toList.drop k
theorem from_zero (s : ByteArray) : from' s 0 = s.data.toList := List.drop_zero
theorem wf_ne (s : ByteArray) (k : Nat) (h : k < s.size) (hc : s[k] ≠ 37) : Pl.wf (from' s k) = Pl.wf (from' s (k + 1)) := Pl.wf_at_ne s.data.toList k (by rw [len_list]; exact h) hc
theorem wf_short (s : ByteArray) (k : Nat) (h : k < s.size) (hc : s[k] = 37) (hs : ¬ k + 2 < s.size) : Pl.wf (from' s k) = false :=
  Pl.wf_at_short s.data.toList k (by rw [len_list]; exact h) hc (by rw [len_list]; omega)
theorem wf_pct (s : ByteArray) (k : Nat) (h : k + 2 < s.size) (hc : s[k]'(by omega) = 37) :
    Pl.wf (from' s k) = (Pl.hexB (s[k + 1]'(by omega)).toNat && Pl.hexB (s[k + 2]).toNat && Pl.wf (from' s (k + 3))) := Pl.wf_at_pct s.data.toList k (by rw [len_list]; exact h) hc
theorem wf_end (s : ByteArray) (k : Nat) (h : ¬ k < s.size) : Pl.wf (from' s k) = true := by
  unfold from'; rw [List.drop_eq_nil_of_le (by rw [len_list]; omega), Pl.wf_nil]
theorem dec_ne (s : ByteArray) (k : Nat) (h : k < s.size) (hc : s[k] ≠ 37) : Pl.dec (from' s k) = s[k] :: Pl.dec (from' s (k + 1)) := Pl.dec_at_ne s.data.toList k (by rw [len_list]; exact h) hc
theorem dec_pct (s : ByteArray) (k : Nat) (h : k + 2 < s.size) (hc : s[k]'(by omega) = 37) :
    Pl.dec (from' s k) = Pl.oct (s[k + 1]'(by omega)) (s[k + 2]) :: Pl.dec (from' s (k + 3)) := Pl.dec_at_pct s.data.toList k (by rw [len_list]; exact h) hc
theorem dec_end (s : ByteArray) (k : Nat) (h : ¬ k < s.size) : Pl.dec (from' s k) = [] := by
  unfold from'; rw [List.drop_eq_nil_of_le (by rw [len_list]; omega), Pl.dec_nil]
theorem wf_room (s : ByteArray) (k : Nat) (h : k < s.size) (hc : s[k] = 37) (hw : Pl.wf (from' s k) = true) : k + 2 < s.size := by
  have := Pl.wf_length_pct s.data.toList k (by rw [len_list]; exact h) hc hw
  rwa [len_list] at this

set_option maxRecDepth 100000 in
set_option maxHeartbeats 400000 in
theorem wellFormed (s : ByteArray) (w : World) (hs : s.size ≤ 2097152) :
    Calls Try.prog 16 #[.string s] w fun e w' => e = .returned (.bool (Pl.wf s.data.toList)) ∧ w' = w := by
  go_enter Try.func16, Try.ntmps16
  go_wp2
  go_loop [3] (fun i => ∃ k : Nat, k ≤ s.size ∧ i = .int .i64 k ∧ Hid (Pl.wf s.data.toList = Pl.wf (from' s k))) (fun i => s.size - (intOf i).toNat)
  case atStart => exact ⟨0, Nat.zero_le _, rfl, by rw [from_zero]; rfl⟩
  case round =>
    obtain ⟨k, hk, rfl, hrel⟩ := hrel
    by_cases hlt : k < s.size
    · by_cases hp : s[k] = 37
      · have hp' : ((s[k].toNat : Int) == 37) = true := byte_eq hp
        by_cases h2 : k + 2 < s.size
        · have HE : Hid (_ = _) := hrel.out.trans (wf_pct s k h2 hp)
          clear hp hrel
          generalize hb1 : Pl.hexB (s[k + 1]).toNat = b1 at HE
          have HB1 : Hid (Pl.hexB (s[k + 1]).toNat = b1) := hb1
          clear hb1
          generalize hb2 : Pl.hexB (s[k + 2]).toNat = b2 at HE
          have HB2 : Hid (Pl.hexB (s[k + 2]).toNat = b2) := hb2
          clear hb2
          cases b1
          · go_wp2_with (go_at_call 39; refine (hexVal_at _ _ (UInt8.toNat_lt _) HB1.out _).mono ?_; rintro e w' ⟨rfl, rfl⟩)
            go_ret
            exact ⟨ret_bool HE.out.symm, rfl⟩
          · cases b2
            · go_wp2_with fail
              refine (hexVal_at _ _ (UInt8.toNat_lt _) HB1.out _).mono ?_
              rintro e w' ⟨rfl, rfl⟩
              go_wp2_with fail
              refine (hexVal_at _ _ (UInt8.toNat_lt _) HB2.out _).mono ?_
              rintro e w' ⟨rfl, rfl⟩
              go_wp2
              go_ret
              exact ⟨ret_bool HE.out.symm, rfl⟩
            · go_wp2_with fail
              refine (hexVal_at _ _ (UInt8.toNat_lt _) HB1.out _).mono ?_
              rintro e w' ⟨rfl, rfl⟩
              go_wp2_with fail
              refine (hexVal_at _ _ (UInt8.toNat_lt _) HB2.out _).mono ?_
              rintro e w' ⟨rfl, rfl⟩
              go_wp2
              go_round
              case rel => exact ⟨k + 3, by omega, by go_num, HE.out⟩
              case measure => simp [intOf]; omega
        · have HE : Hid (_ = _) := hrel.out.trans (wf_short s k hlt hp h2)
          clear hp hrel
          go_wp2_with fail
          go_ret
          exact ⟨ret_bool HE.out.symm, rfl⟩
      · have hp' : ((s[k].toNat : Int) == 37) = false := byte_ne hp
        have HE : Hid (_ = _) := hrel.out.trans (wf_ne s k hlt hp)
        clear hp hrel
        go_wp2
        go_round
        case rel => exact ⟨k + 1, by omega, by go_num, HE.out⟩
        case measure => simp [intOf]; omega
    · have HE : Hid (_ = _) := hrel.out.trans (wf_end s k hlt)
      clear hrel
      go_wp2
      go_ret
      exact ⟨ret_bool HE.out.symm, rfl⟩

end Go.Proofs.Qxb6001154a
