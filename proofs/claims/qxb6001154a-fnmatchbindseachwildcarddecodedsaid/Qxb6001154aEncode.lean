import Derived.Test.Qxb6001154aDecode
namespace Go.Proofs.Qxb6001154a
open Go.RowKit

namespace Pl
/-- An upper-case hexadecimal digit. -/
def hexD (v : Nat) : UInt8 := if v < 10 then UInt8.ofNat (48 + v) else UInt8.ofNat (55 + v)
/-- Every byte percent-encoded. -/
def enc : List UInt8 → List UInt8
  | [] => []
  | c :: r => 37 :: hexD (c.toNat / 16) :: hexD (c.toNat % 16) :: enc r
theorem enc_length : ∀ l, (enc l).length = 3 * l.length
  | [] => rfl
  | c :: r => by have := enc_length r; simp only [enc, List.length_cons]; omega
theorem enc_snoc : ∀ (l : List UInt8) (c : UInt8), enc (l ++ [c]) = enc l ++ [37, hexD (c.toNat / 16), hexD (c.toNat % 16)]
  | [], c => rfl
  | x :: r, c => by simp only [List.cons_append, enc, enc_snoc r c]
theorem hexD_ok : ∀ v, v < 16 → hexB (hexD v).toNat = true ∧ hexV (hexD v).toNat = v := by decide +kernel
theorem oct_enc (c : UInt8) : oct (hexD (c.toNat / 16)) (hexD (c.toNat % 16)) = c := by
  have h := UInt8.toNat_lt c
  unfold oct
  rw [(hexD_ok (c.toNat / 16) (by omega)).2, (hexD_ok (c.toNat % 16) (by omega)).2]
  have e : c.toNat / 16 * 16 + c.toNat % 16 = c.toNat := by omega
  rw [e]
  exact UInt8.ofNat_toNat
theorem wf_enc : ∀ l, wf (enc l) = true
  | [] => wf_nil
  | c :: r => by
    have h := UInt8.toNat_lt c
    rw [enc, wf_pct, (hexD_ok _ (by omega)).1, (hexD_ok _ (by omega)).1, wf_enc r]
    rfl
theorem dec_enc : ∀ l, dec (enc l) = l
  | [] => dec_nil
  | c :: r => by rw [enc, dec_pct, dec_enc r, oct_enc]
end Pl

theorem hexDigit_low : ∀ v : Nat, v < 16 → v < 10 → ((48 : Int) + (v : Int)) = ((Pl.hexD v).toNat : Int) := by decide +kernel
theorem hexDigit_high : ∀ v : Nat, v < 16 → ¬ v < 10 → ((65 : Int) + (v : Int) - 10) = ((Pl.hexD v).toNat : Int) := by decide +kernel

set_option maxHeartbeats 400000 in
theorem hexDigit (v : Nat) (hv : v < 16) (w : World) :
    Calls Try.prog 37 #[.int .u8 (v : Int), .bool true] w fun e w' => e = .returned (.int .u8 ((Pl.hexD v).toNat : Int)) ∧ w = w' := by
  by_cases h : v < 10
  · have HE : Hid (_ = _) := hexDigit_low v hv h
    go_enter Try.func37, Try.ntmps37
    go_wp2
    go_ret
    exact ⟨ret_val (congrArg (Value.int .u8) HE.out), rfl⟩
  · have HE : Hid (_ = _) := hexDigit_high v hv h
    go_enter Try.func37, Try.ntmps37
    go_wp2
    go_ret
    exact ⟨ret_val (congrArg (Value.int .u8) HE.out), rfl⟩

theorem hexDigit_at (x : Int) (v : Nat) (hx : x = (v : Int)) (hv : v < 16) (w : World) :
    Calls Try.prog 37 #[.int .u8 x, .bool true] w fun e w' => e = .returned (.int .u8 ((Pl.hexD v).toNat : Int)) ∧ w = w' := by
  subst hx; exact hexDigit v hv w

theorem and15 : ∀ c : Nat, c < 256 → bits BinOp.and IntKind.u8 (c : Int) 15 = ((c % 16 : Nat) : Int) := by decide +kernel

/-- Three bytes more behind a row of bytes. -/
theorem own_three {w : World} {base : Nat} {v : Value} {out : List UInt8} {a b c : UInt8} (h : w.ownsRow base 5 1 v (((out ++ [a]) ++ [b]) ++ [c]).length (Lib.byteCells (((out ++ [a]) ++ [b]) ++ [c]))) :
    w.ownsRow base 5 1 v (out ++ [a, b, c]).length (Lib.byteCells (out ++ [a, b, c])) := by
  simpa using h

set_option maxRecDepth 100000 in
set_option maxHeartbeats 400000 in
theorem encode (s : ByteArray) (w : World) (hs : s.size ≤ 2097152) :
    Calls Try.prog 12 #[.string s, .bool true] w fun e w' => e = .returned (.string ⟨(Pl.enc s.data.toList).toArray⟩) ∧ Below w.heap.size w w' := by
  obtain ⟨i0, hi, hz0, hz1, hz2⟩ := info_parts Try.info5
  go_enter Try.func12, Try.ntmps12
  go_wp2_with (at_make; refine wpList_make_own _ rfl _ _ 53 rfl w.heap.size 5 i0 (.int .u8 0) 1 Try.underlying53 hi hz0 hz1 .i64 .i64 _ (3 * s.size) rfl rfl (by omega) (by rw [hz2]; omega) (by unfold maxLen; omega) (Nat.le_refl _) ?_; intro w1 hown1 hgrow1)
  go_loopw [5, 6] (fun v i wr => ∃ (k : Nat), k ≤ s.size ∧ i = .int .i64 k ∧ wr.ownsRow w.heap.size 5 1 v (Pl.enc (s.data.toList.take k)).length (Lib.byteCells (Pl.enc (s.data.toList.take k))) ∧ Below w.heap.size w wr) (fun _ i _ => s.size - (intOf i).toNat)
  case atStart => exact ⟨0, by omega, rfl, by simpa [Lib.byteCells, Pl.enc] using hown1, (Below.refl _ _).grown hgrow1 (Nat.le_refl _) (fun k h => by cases h)⟩
  case round =>
    clear hown1 hgrow1
    obtain ⟨k, hk, rfl, hown, hbel⟩ := hrel
    have hbs := hbel.size
    by_cases hlt : k < s.size
    · have HT : Hid (_ = _) := (List.take_succ_eq_append_getElem (l := s.data.toList) (i := k) (by rw [len_list]; exact hlt))
      have hel : (Pl.enc (s.data.toList.take k)).length ≤ 3 * k := by rw [Pl.enc_length]; have := List.length_take_le k s.data.toList; omega
      generalize hout : Pl.enc (s.data.toList.take k) = out at *
      have HOUT : Hid (_ = _) := hout
      clear hout
      have hx := UInt8.toNat_lt s[k]
      go_wp2_with (at_builtin; go_must (refine wpList_append_own _ rfl _ _ 53 rfl w.heap.size 5 i0 (.int .u8 0) 1 1 Try.underlying53 hi hz0 hz1 hz2 rfl (by decide) _ _ _ rfl (hown.alloc _) ⟨wr.heap.size, 0, none⟩ 1 1 [.int .u8 37] rfl rfl (cell_one_new _ _ _) (by intro u hu; simp at hu; subst hu; rfl) (by unfold maxLen; omega) (by omega) (by simp; omega) ?_); intro v1 w2 hown2 hgrow2 _)
      have hown2' := own_snoc (c := 37) rfl hown2
      have hbel2 := below_append hbel hgrow2 (owns_block hown)
      have hbs2 := hbel2.size
      clear hown2 hgrow2 hown hbel
      refine (hexDigit_at _ (s[k].toNat / 16) (by omega) (by omega) _).mono ?_
      rintro e w' ⟨rfl, rfl⟩
      go_wp2_with (at_builtin; go_must (refine wpList_append_own _ rfl _ _ 53 rfl w.heap.size 5 i0 (.int .u8 0) 1 1 Try.underlying53 hi hz0 hz1 hz2 rfl (by decide) _ _ _ rfl (hown2'.alloc _) ⟨w2.heap.size, 0, none⟩ 1 1 [.int .u8 ((Pl.hexD (s[k].toNat / 16)).toNat : Int)] rfl rfl (cell_one_new _ _ _) (by intro u hu; simp at hu; subst hu; rfl) (by unfold maxLen; simp; omega) (by simp; omega) (by simp; omega) ?_); intro v2 w3 hownw3 hgroww3 _)
      have hown3' := own_snoc (c := Pl.hexD (s[k].toNat / 16)) rfl hownw3
      have hbel3 := below_append hbel2 hgroww3 (owns_block hown2')
      have hbs3 := hbel3.size
      clear hownw3 hgroww3 hown2' hbel2
      go_wp2_with fail
      refine (hexDigit_at _ (s[k].toNat % 16) (by omega) (by omega) _).mono ?_
      rintro e w' ⟨rfl, rfl⟩
      go_wp2_with (at_builtin; go_must (refine wpList_append_own _ rfl _ _ 53 rfl w.heap.size 5 i0 (.int .u8 0) 1 1 Try.underlying53 hi hz0 hz1 hz2 rfl (by decide) _ _ _ rfl (hown3'.alloc _) ⟨w3.heap.size, 0, none⟩ 1 1 [.int .u8 ((Pl.hexD (s[k].toNat % 16)).toNat : Int)] rfl rfl (cell_one_new _ _ _) (by intro u hu; simp at hu; subst hu; rfl) (by unfold maxLen; simp; omega) (by simp; omega) (by simp; omega) ?_); intro v3 w4 hownw4 hgroww4 _)
      have hown4' := own_three (own_snoc (c := Pl.hexD (s[k].toNat % 16)) rfl hownw4)
      have hbel4 := below_append hbel3 hgroww4 (owns_block hown3')
      have hfin : out ++ [37, Pl.hexD (s[k].toNat / 16), Pl.hexD (s[k].toNat % 16)] = Pl.enc (s.data.toList.take (k + 1)) := by
        rw [HT.out, Pl.enc_snoc, HOUT.out]; rfl
      rw [hfin] at hown4'
      clear hfin hownw4 hgroww4 hown3' hbel3
      go_wp2
      go_roundw
      case rel => first | exact ⟨k + 1, by omega, by go_num, hown4', hbel4⟩ | ((repeat apply Exists.intro); exact ⟨⟨k + 1, by omega, by go_num, hown4', hbel4⟩, rfl⟩)
      case measure => simp [intOf]; omega
    · have HE : Hid (s.data.toList.take k = s.data.toList) := List.take_of_length_le (by rw [len_list]; omega)
      rw [HE.out] at hown
      have hcv := run_string_of hown
      go_wp2
      go_ret
      exact ⟨rfl, hbel⟩

end Go.Proofs.Qxb6001154a
