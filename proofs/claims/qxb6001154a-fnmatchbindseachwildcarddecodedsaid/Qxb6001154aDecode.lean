import Derived.Test.Qxb6001154aUnesc
namespace Go.Proofs.Qxb6001154a
open Go.RowKit

theorem oct_val2 (a b : UInt8) : bits BinOp.or IntKind.u8 ((Pl.hexV a.toNat : Int) * 16 % 256) (Pl.hexV b.toNat : Int) = ((Pl.oct a b).toNat : Int) := by
  have h := octet _ (Pl.hexV_lt a.toNat) _ (Pl.hexV_lt b.toNat)
  rw [IntKind.wrap_u8] at h
  rw [h]
  have h1 := Pl.hexV_lt a.toNat
  have h2 := Pl.hexV_lt b.toNat
  unfold Pl.oct
  rw [UInt8.toNat_ofNat_of_lt' (by simp [UInt8.size]; omega)]

theorem hexVal_of (x : UInt8) (w : World) :
    Calls Try.prog 39 #[.int .u8 (x.toNat : Int)] w fun e w' => e = .returned (.tuple #[.int .u8 (Pl.hexV x.toNat : Int), .bool (Pl.hexB x.toNat)]) ∧ w = w' :=
  (hexVal x.toNat (UInt8.toNat_lt _) w).mono fun _ _ h => ⟨h.1, h.2.symm⟩

set_option maxRecDepth 100000 in
set_option maxHeartbeats 400000 in
theorem decode (s : ByteArray) (w : World) (hs : s.size ≤ 2097152) (hw : Pl.wf s.data.toList = true) :
    Calls Try.prog 23 #[.string s, .bool false] w fun e w' => e = .returned (.string ⟨(Pl.dec s.data.toList).toArray⟩) ∧ Below w.heap.size w w' := by
  obtain ⟨i0, hi, hz0, hz1, hz2⟩ := info_parts Try.info5
  have HW : Hid (_ = true) := hw
  have HL : Hid (_ ≤ _) := Pl.dec_length_le s.data.toList
  clear hw
  go_enter Try.func23, Try.ntmps23
  go_wp2_with (at_make; refine wpList_make_any _ rfl _ _ 53 rfl w.heap.size 5 i0 (.int .u8 0) 1 Try.underlying53 hi hz0 hz1 .i64 .i64 0 s.size rfl rfl (by omega) (by rw [hz2]; omega) (by unfold maxLen; omega) (Nat.le_refl _) ?_; intro w1 hown1 hgrow1)
  go_loopw [5, 6] (fun v i wr => ∃ (k : Nat) (out : List UInt8), k ≤ s.size ∧ i = .int .i64 k ∧ wr.ownsRow w.heap.size 5 1 v out.length (Lib.byteCells out) ∧ out.length ≤ s.size ∧ Hid (out ++ Pl.dec (from' s k) = Pl.dec s.data.toList) ∧ Hid (Pl.wf (from' s k) = true) ∧ Below w.heap.size w wr) (fun _ i _ => s.size - (intOf i).toNat)
  case atStart =>
    exact ⟨0, [], by omega, rfl, by simpa [Lib.byteCells] using hown1, by simp, by rw [from_zero]; rfl, by rw [from_zero]; exact HW.out, (Below.refl _ _).grown hgrow1 (Nat.le_refl _) (fun k h => by cases h)⟩
  case round =>
    clear hown1 hgrow1
    obtain ⟨k, out, hk, rfl, hown, hol, hrel, hwf, hbel⟩ := hrel
    have hbs := hbel.size
    by_cases hlt : k < s.size
    · by_cases hp : s[k] = 37
      · have hp' : ((s[k].toNat : Int) == 37) = true := byte_eq hp
        have h2 := wf_room s k hlt hp hwf.out
        have HW2 := (wf_pct s k h2 hp).symm.trans hwf.out
        simp only [Bool.and_eq_true] at HW2
        have HW2 : Hid (_ = _) := HW2.2
        have HR : Hid (_ ∧ _) := rel_step hrel.out (dec_pct s k h2 hp) HL.out
        have hO := oct_val2 s[k + 1] s[k + 2]
        generalize Pl.oct s[k + 1] s[k + 2] = c at *
        clear hp
        go_wp2_with fail
        refine (hexVal_of _ _).mono ?_
        rintro e w' ⟨rfl, rfl⟩
        go_wp2_with fail
        refine (hexVal_of _ _).mono ?_
        rintro e w' ⟨rfl, rfl⟩
        go_wp2_with (at_builtin; refine wpList_append_own _ rfl _ _ 53 rfl w.heap.size 5 i0 (.int .u8 0) 1 1 Try.underlying53 hi hz0 hz1 hz2 rfl (by decide) _ _ _ rfl (hown.alloc _) ⟨wr.heap.size, 0, none⟩ 1 1 [.int .u8 (c.toNat : Int)] rfl rfl (cell_one_new _ _ _) (by intro u hu; simp at hu; subst hu; rfl) (by unfold maxLen; omega) (by omega) (by simp; omega) ?_; intro v' w3 hown3 hgrow3 _)
        go_roundw
        case rel => first | exact ⟨k + 3, out ++ [c], by omega, by go_num, own_snoc rfl hown3, HR.out.2, HR.out.1, HW2.out, below_append hbel hgrow3 (owns_block hown)⟩ | ((repeat apply Exists.intro); exact ⟨⟨k + 3, out ++ [c], by omega, by go_num, own_snoc rfl hown3, HR.out.2, HR.out.1, HW2.out, below_append hbel hgrow3 (owns_block hown)⟩, rfl⟩)
        case measure => simp [intOf]; omega
      · have hp' : ((s[k].toNat : Int) == 37) = false := byte_ne hp
        have HR : Hid (_ ∧ _) := rel_step hrel.out (dec_ne s k hlt hp) HL.out
        have HW2 : Hid (_ = _) := (wf_ne s k hlt hp).symm.trans hwf.out
        clear hp
        go_wp2_with (at_builtin; refine wpList_append_own _ rfl _ _ 53 rfl w.heap.size 5 i0 (.int .u8 0) 1 1 Try.underlying53 hi hz0 hz1 hz2 rfl (by decide) _ _ _ rfl (hown.alloc _) ⟨wr.heap.size, 0, none⟩ 1 1 [.int .u8 (s[k].toNat : Int)] rfl rfl (cell_one_new _ _ _) (by intro u hu; simp at hu; subst hu; rfl) (by unfold maxLen; omega) (by omega) (by simp; omega) ?_; intro v' w3 hown3 hgrow3 _)
        go_roundw
        case rel => first | exact ⟨k + 1, out ++ [s[k]], by omega, by go_num, own_snoc rfl hown3, HR.out.2, HR.out.1, HW2.out, below_append hbel hgrow3 (owns_block hown)⟩ | ((repeat apply Exists.intro); exact ⟨⟨k + 1, out ++ [s[k]], by omega, by go_num, own_snoc rfl hown3, HR.out.2, HR.out.1, HW2.out, below_append hbel hgrow3 (owns_block hown)⟩, rfl⟩)
        case measure => simp [intOf]; omega
    · have HE : Hid (_ = _) := hrel.out
      have HN := dec_end s k hlt
      have hcv := run_string_of hown
      have HF : Hid (out = Pl.dec s.data.toList) := by have h1 := HE.out; rw [HN, List.append_nil] at h1; exact h1
      clear HE HN
      go_wp2
      go_ret
      exact ⟨ret_val (by rw [← HF.out]; rfl), hbel⟩

end Go.Proofs.Qxb6001154a
