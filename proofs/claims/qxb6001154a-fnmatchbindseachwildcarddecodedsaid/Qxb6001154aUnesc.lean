import Derived.Test.Qxb6001154aCopy
import Derived.BigQuiet
import Derived.Deep.QuietTactic
namespace Go.Proofs.Qxb6001154a
open Go.RowKit

/-- What unhex comes to at whatever byte. -/
def uhx (c : Nat) : Nat := if c ≤ 57 then (c + 208) % 256 else if c ≤ 70 then (c + 201) % 256 else (c + 169) % 256
theorem uhx_hex : ∀ c : Nat, c < 256 → Pl.hexB c = true → uhx c = Pl.hexV c := by decide +kernel
theorem uhx1 : ∀ c : Nat, c < 256 → c ≤ 57 → IntKind.u8.wrap ((c : Int) - 48) = (uhx c : Int) := by decide +kernel
theorem uhx2 : ∀ c : Nat, c < 256 → 57 < c → c ≤ 70 → IntKind.u8.wrap (IntKind.u8.wrap ((c : Int) - 65) + 10) = (uhx c : Int) := by decide +kernel
theorem uhx3 : ∀ c : Nat, c < 256 → 70 < c → IntKind.u8.wrap (IntKind.u8.wrap ((c : Int) - 97) + 10) = (uhx c : Int) := by decide +kernel

set_option maxHeartbeats 400000 in
theorem unhex (c : Nat) (hc : c < 256) (w : World) :
    Calls Try.prog 49 #[.int .u8 (c : Int)] w fun e w' => e = .returned (.int .u8 (uhx c : Int)) ∧ w' = w := by
  go_enter Try.func49, Try.ntmps49
  go_wp2
  all_goals go_ret
  all_goals refine ⟨ret_val (congrArg (Value.int .u8) ?_), rfl⟩
  all_goals go_tidy
  · rw [← uhx1 c hc (by omega), IntKind.wrap_u8]
  · rw [← uhx2 c hc (by omega) (by omega)]; simp only [IntKind.wrap_u8]
  · rw [← uhx3 c hc (by omega)]; simp only [IntKind.wrap_u8]

/-- 'make([]T, l, c)'. -/
theorem wpList_make_any {P : Program} (w : World) {ops : Array Oper} {rest : List Oper} {o : Oper} {a : Act} {Q : Exit → Act → World → Prop}
    (hg : o.guard = none) (l c : Operand) (t : TypeId) (hop : o.op = Op.makeSlice t l c)
    (base : Nat) (e : TypeId) (i : TypeInfo) (z : Value) (size : Nat) (h1 : P.underlying t = some (.slice e)) (h2 : P.info? e = some i) (h3 : i.zero = some z) (h4 : i.size = size)
    (kl kc : IntKind) (n m : Nat) (hl : a.eval l = .int kl (n : Int)) (hc : a.eval c = .int kc (m : Int)) (hnm : n ≤ m) (b2 : i.bytes * m ≤ 281474976710656) (b3 : m ≤ maxLen) (b4 : base ≤ w.heap.size)
    (hK : ∀ w', w'.ownsRow base e size (.slice (some ⟨w.heap.size, 0, none⟩) n m) n ((madeCells z.cells (m * size)).toList.take (n * size)) → w.grownBy w' none → wpList P ops Q rest (a.put o.dst (.slice (some ⟨w.heap.size, 0, none⟩) n m)) w') :
    wpList P ops Q (o :: rest) a w := by
  refine wpList_plain hg fun K hK' => ?_
  have h63' : (m : Int) ≤ 9223372036854775807 := by have h := b3; simp [maxLen] at h; omega
  have hb' : (i.bytes : Int) * (m : Int) ≤ 281474976710656 := by
    have h : ((i.bytes * m : Nat) : Int) ≤ 281474976710656 := by omega
    rwa [Int.natCast_mul] at h
  have hrun := run_make (P := P) w t e i z h1 h2 h3 kl kc n m (by omega) (by omega) hb' h63'
  simp only [Int.toNat_natCast] at hrun
  unfold Oper.wp
  simp [execOp, hop, hl, hc, hrun, Result.andThen]
  refine hK' _ _ (hK _ ⟨?_, .inr ⟨w.heap.size, m, _, rfl, b4, heap_alloc_new w _, hnm, b3, ?_, ?_⟩⟩ (World.grownBy_alloc w _ none))
  · rw [List.length_take, Array.length_toList, size_madeCells]
    exact Nat.min_eq_left (Nat.mul_le_mul_right _ hnm)
  · rw [size_madeCells, h4]
  · rw [h4]

theorem indexByte_at (s : ByteArray) (c : Int) (v : Int) (h : Lib.indexByte s.data.toList c.toNat.toUInt8 = v) (w : World) :
    Calls Try.prog 48 #[.string s, .int .u8 c] w fun e w' => e = .returned (.int .i64 v) ∧ w = w' := by
  subst h; exact (indexByte s c w).mono fun e w' h => ⟨h.1, h.2.symm⟩

theorem str_self (s : ByteArray) {l : List UInt8} (h : l = s.data.toList) : (⟨l.toArray⟩ : ByteArray) = s := by
  subst h; exact bytes_ext (by simp)

theorem dec_none (s : ByteArray) (h : Lib.indexByte s.data.toList 37 = -1) : Pl.dec s.data.toList = s.data.toList := by
  have h1 := (Pl.dec_prefix s.data.toList s.data.toList.length (Nat.le_refl _) (fun j hj _ e => Lib.indexByte_none h j (by rw [List.getElem?_eq_getElem hj, e]))).1
  rw [List.take_length, List.drop_length, Pl.dec_nil, List.append_nil] at h1
  exact h1.symm

theorem dec_some (s : ByteArray) (k : Nat) (h : Lib.indexByte s.data.toList 37 = (k : Int)) : k < s.size ∧ s.data.toList.take k ++ Pl.dec (from' s k) = Pl.dec s.data.toList ∧ Pl.wf (from' s k) = Pl.wf s.data.toList := by
  obtain ⟨h1, h2⟩ := Lib.indexByte_some h
  have hk : k < s.data.toList.length := by
    rcases Nat.lt_or_ge k s.data.toList.length with h3 | h3
    · exact h3
    · rw [List.getElem?_eq_none h3] at h1; cases h1
  obtain ⟨h3, h4⟩ := Pl.dec_prefix s.data.toList k (by omega) (fun j hj hjk e => h2 j hjk (by rw [List.getElem?_eq_getElem hj, e]))
  rw [len_list] at hk
  exact ⟨hk, h3, h4⟩

set_option maxRecDepth 100000 in
set_option maxHeartbeats 400000 in
theorem unescape_no (s : ByteArray) (w : World) (h : Lib.indexByte s.data.toList 37 = -1) :
    Calls Try.prog 38 #[.string s, .bool false] w fun e w' => e = .returned (.string ⟨(Pl.dec s.data.toList).toArray⟩) ∧ Below w.heap.size w w' := by
  have HI : Hid (_ = _) := h
  have HD : Hid (_ = _) := str_self s (dec_none s h)
  clear h
  go_enter Try.func38, Try.ntmps38
  go_wp2_with (go_at_call 48; refine (indexByte_at _ _ (-1) HI.out _).mono ?_; rintro e w' ⟨rfl, rfl⟩)
  go_ret
  exact ⟨ret_val (by rw [HD.out]; rfl), Below.refl _ _⟩

theorem octet : ∀ a : Nat, a < 16 → ∀ b : Nat, b < 16 → bits BinOp.or IntKind.u8 (IntKind.u8.wrap ((a : Int) * 16)) (b : Int) = ((a * 16 + b : Nat) : Int) := by decide +kernel

theorem owns_block {w : World} {base : Nat} {e : TypeId} {size : Nat} {v : Value} {n : Nat} {xs : List Value} (h : w.ownsRow base e size v n xs) : ∀ k, v.ownBlock = some k → base ≤ k := by
  intro k hk
  rcases h.2 with ⟨rfl, _⟩ | ⟨g, cap, cur, rfl, hb, _⟩
  · cases hk
  · simp only [Value.ownBlock, Option.some.injEq] at hk; omega

theorem owns_drewN {w : World} {base : Nat} {e : TypeId} {size : Nat} {v : Value} {n : Nat} {xs : List Value} (h : w.ownsRow base e size v n xs) (k : Nat) : (w.drewN k).ownsRow base e size v n xs := h

/-- One byte more behind a row of bytes. -/
theorem own_snoc {w : World} {base : Nat} {v : Value} {out : List UInt8} {c : UInt8} {x : Value} (hx : x = .int .u8 (c.toNat : Int)) (h : w.ownsRow base 5 1 v (out.length + 1) (Lib.byteCells out ++ [x])) :
    w.ownsRow base 5 1 v (out ++ [c]).length (Lib.byteCells (out ++ [c])) := by
  subst hx
  rw [List.length_append]
  have e : Lib.byteCells (out ++ [c]) = Lib.byteCells out ++ [.int .u8 (c.toNat : Int)] := by simp [Lib.byteCells]
  rw [e]; exact h

theorem below_append {w wr w3 : World} {v : Value} {o : Obj} (hbel : Below w.heap.size w wr) (hg : (wr.alloc o).grownBy w3 v.ownBlock) (hv : ∀ k, v.ownBlock = some k → w.heap.size ≤ k) : Below w.heap.size w w3 :=
  (hbel.alloc hbel.size o).grown hg (by have := hbel.size; simp; omega) hv

theorem str_at (s : ByteArray) (k : Nat) (hk : k < s.size) (i : Int) (hi : i = (k : Int)) : ∀ w, (Instr.index 9 (.string s) (.int .i64 i)).run Try.prog w = .ok (.int .u8 (s[k].toNat : Int)) w := by
  intro w
  subst hi
  rw [run_index_string w 9 s .i64 _ Try.underlying9]
  simp [hk]

/-- What a round does to the relation of the decoding loops. -/
theorem rel_step {s : ByteArray} {k k' : Nat} {out : List UInt8} {c : UInt8} (h : out ++ Pl.dec (from' s k) = Pl.dec s.data.toList) (hc : Pl.dec (from' s k) = c :: Pl.dec (from' s k')) (hl : (Pl.dec s.data.toList).length ≤ s.data.toList.length) :
    (out ++ [c]) ++ Pl.dec (from' s k') = Pl.dec s.data.toList ∧ (out ++ [c]).length ≤ s.size := by
  rw [hc] at h
  refine ⟨by rw [List.append_assoc]; exact h, ?_⟩
  rw [len_list, ← h] at hl
  simp at hl ⊢
  omega

theorem oct_val (a b : UInt8) (ha : Pl.hexB a.toNat = true) (hb : Pl.hexB b.toNat = true) : bits BinOp.or IntKind.u8 (IntKind.u8.wrap ((uhx a.toNat : Int) * 16)) (uhx b.toNat : Int) = ((Pl.oct a b).toNat : Int) := by
  rw [uhx_hex _ (UInt8.toNat_lt _) ha, uhx_hex _ (UInt8.toNat_lt _) hb, octet _ (Pl.hexV_lt _) _ (Pl.hexV_lt _)]
  have h1 := Pl.hexV_lt a.toNat
  have h2 := Pl.hexV_lt b.toNat
  unfold Pl.oct
  rw [UInt8.toNat_ofNat_of_lt' (by simp [UInt8.size]; omega)]

set_option maxRecDepth 100000 in
set_option maxHeartbeats 400000 in
theorem unescape_yes (s : ByteArray) (k0 : Nat) (w : World) (hs : s.size ≤ 2097152) (hw : Pl.wf s.data.toList = true) (h : Lib.indexByte s.data.toList 37 = (k0 : Int)) :
    Calls Try.prog 38 #[.string s, .bool false] w fun e w' => e = .returned (.string ⟨(Pl.dec s.data.toList).toArray⟩) ∧ Below w.heap.size w w' := by
  obtain ⟨i0, hi, hz0, hz1, hz2⟩ := info_parts Try.info5
  have hsz : (Try.prog.info? 5).map (·.size) = some 1 := by rw [hi]; simp [hz1]
  have HI : Hid (_ = _) := h
  obtain ⟨hk0, hd, hwf⟩ := dec_some s k0 h
  have HD : Hid (_ = _) := hd
  have HW : Hid (_ = true) := hwf.trans hw
  have HL : Hid (_ ≤ _) := Pl.dec_length_le s.data.toList
  clear h hd hwf hw
  go_enter Try.func38, Try.ntmps38
  go_wp2_with (first
    | (go_at_call 48; refine (indexByte_at _ _ (k0 : Int) HI.out _).mono ?_; rintro e w' ⟨rfl, rfl⟩)
    | (at_make; refine wpList_make_any _ rfl _ _ 53 rfl w.heap.size 5 i0 (.int .u8 0) 1 Try.underlying53 hi hz0 hz1 .i64 .i64 k0 s.size rfl rfl (by omega) (by rw [hz2]; omega) (by unfold maxLen; omega) (Nat.le_refl _) ?_; intro w1 hown1 hgrow1)
    | (refine wpList_copy_str _ rfl _ _ 53 9 rfl 5 Try.underlying53 hsz w.heap.size w.heap.size k0 s.size _ s rfl rfl (by omega) hown1 ?_; intro w2 hown2 hgrow2))
  simp only [Act.put, List.setIfInBounds_toArray, List.set_cons_succ, List.set_cons_zero]
  go_loopw [5, 6] (fun i v wr => ∃ (k : Nat) (out : List UInt8), k ≤ s.size ∧ i = .int .i64 k ∧ wr.ownsRow w.heap.size 5 1 v out.length (Lib.byteCells out) ∧ out.length ≤ s.size ∧ Hid (out ++ Pl.dec (from' s k) = Pl.dec s.data.toList) ∧ Hid (Pl.wf (from' s k) = true) ∧ Below w.heap.size w wr) (fun i _ _ => s.size - (intOf i).toNat)
  case atStart =>
    have htl : (s.data.toList.take k0).length = k0 := by rw [List.length_take, len_list]; omega
    exact ⟨k0, s.data.toList.take k0, by omega, rfl, by rw [htl]; exact hown2, by omega, HD.out, HW.out, ((Below.refl _ _).grown hgrow1 (Nat.le_refl _) (fun k h => by cases h)).trans ((Below.refl _ _).grown hgrow2 hgrow1.size (fun k h => by cases h; exact Nat.le_refl _))⟩
  case round =>
    clear hown1 hgrow1 hown2 hgrow2
    obtain ⟨k, out, hk, rfl, hown, hol, hrel, hwf, hbel⟩ := hrel
    have hbs := hbel.size
    by_cases hlt : k < s.size
    · by_cases hp : s[k] = 37
      · have hp' : ((s[k].toNat : Int) == 37) = true := byte_eq hp
        have h2 := wf_room s k hlt hp hwf.out
        have HE := (wf_pct s k h2 hp).symm.trans hwf.out
        simp only [Bool.and_eq_true] at HE
        obtain ⟨⟨ha, hb⟩, HW2⟩ := HE
        have hO := oct_val _ _ ha hb
        rw [IntKind.wrap_u8] at hO
        have HW2 : Hid (_ = _) := HW2
        have HR : Hid (_ ∧ _) := rel_step hrel.out (dec_pct s k h2 hp) HL.out
        generalize Pl.oct s[k + 1] s[k + 2] = c at *
        clear hp ha hb
        have hw1 : IntKind.i64.wrap ((k : Int) + 1) = (k : Int) + 1 := by rw [IntKind.wrap_i64]; omega
        have hw2 : IntKind.i64.wrap ((k : Int) + 2) = (k : Int) + 2 := by rw [IntKind.wrap_i64]; omega
        have hx1 := str_at s (k + 1) (by omega) ((k : Int) + 1) (by omega)
        have hx2 := str_at s (k + 2) (by omega) ((k : Int) + 2) (by omega)
        by_cases h47 : c = 47
        · subst h47
          have hO : _ = (47 : Int) := hO
          go_wp2_with fail
          go_quiet ((go_at_call 49; exact Calls.quiet_of_same (unhex _ (UInt8.toNat_lt _) _)))
          go_wp2_with (at_builtin; refine wpList_append_own _ rfl _ _ 53 rfl w.heap.size 5 i0 (.int .u8 0) 1 1 Try.underlying53 hi hz0 hz1 hz2 rfl (by decide) _ _ _ rfl ((owns_drewN hown nq).alloc _) ⟨wr.heap.size, 0, none⟩ 1 1 [.int .u8 47] rfl rfl (cell_one_new (wr.drewN nq) _ _) (by intro u hu; simp at hu; subst hu; rfl) (by unfold maxLen; omega) (by omega) (by simp; omega) ?_; intro v' w3 hown3 hgrow3 _)
          go_roundw
          case rel =>
            (repeat apply Exists.intro)
            exact ⟨⟨k + 3, out ++ [47], by omega, by go_num, own_snoc rfl hown3, HR.out.2, HR.out.1, HW2.out, below_append (below_drewN hbel nq) hgrow3 (owns_block hown)⟩, rfl⟩
          case measure => simp [intOf]; omega
        · have h47' : ((c.toNat : Int) != 47) = true := by have h1 : ((c.toNat : Int) == 47) = false := byte_ne h47; rw [bne, h1]; rfl
          clear h47
          go_wp2_with fail
          go_quiet ((go_at_call 49; exact Calls.quiet_of_same (unhex _ (UInt8.toNat_lt _) _)))
          go_wp2_with (at_builtin; refine wpList_append_own _ rfl _ _ 53 rfl w.heap.size 5 i0 (.int .u8 0) 1 1 Try.underlying53 hi hz0 hz1 hz2 rfl (by decide) _ _ _ rfl ((owns_drewN hown nq).alloc _) ⟨wr.heap.size, 0, none⟩ 1 1 [.int .u8 (c.toNat : Int)] rfl rfl (cell_one_new (wr.drewN nq) _ _) (by intro u hu; simp at hu; subst hu; rfl) (by unfold maxLen; omega) (by omega) (by simp; omega) ?_; intro v' w3 hown3 hgrow3 _)
          go_roundw
          case rel =>
            (repeat apply Exists.intro)
            exact ⟨⟨k + 3, out ++ [c], by omega, by go_num, own_snoc rfl hown3, HR.out.2, HR.out.1, HW2.out, below_append (below_drewN hbel nq) hgrow3 (owns_block hown)⟩, rfl⟩
          case measure => simp [intOf]; omega
      · have hp' : ((s[k].toNat : Int) == 37) = false := byte_ne hp
        have HR : Hid (_ ∧ _) := rel_step hrel.out (dec_ne s k hlt hp) HL.out
        have HW2 : Hid (_ = _) := (wf_ne s k hlt hp).symm.trans hwf.out
        clear hp
        go_wp2_with (at_builtin; refine wpList_append_own _ rfl _ _ 53 rfl w.heap.size 5 i0 (.int .u8 0) 1 1 Try.underlying53 hi hz0 hz1 hz2 rfl (by decide) _ _ _ rfl (hown.alloc _) ⟨wr.heap.size, 0, none⟩ 1 1 [.int .u8 (s[k].toNat : Int)] rfl rfl (cell_one_new _ _ _) (by intro u hu; simp at hu; subst hu; rfl) (by unfold maxLen; omega) (by omega) (by simp; omega) ?_; intro v' w3 hown3 hgrow3 _)
        go_roundw
        case rel =>
          (repeat apply Exists.intro)
          exact ⟨⟨k + 1, out ++ [s[k]], by omega, by go_num, own_snoc rfl hown3, HR.out.2, HR.out.1, HW2.out, below_append hbel hgrow3 (owns_block hown)⟩, rfl⟩
        case measure => simp [intOf]; omega
    · have HE : Hid (_ = _) := hrel.out
      have HN := dec_end s k hlt
      have hcv := run_string_of hown
      have HF : Hid (out = Pl.dec s.data.toList) := by have h1 := HE.out; rw [HN, List.append_nil] at h1; exact h1
      clear HE HN
      go_wp2
      go_ret
      exact ⟨ret_val (by rw [← HF.out]; rfl), hbel⟩

theorem unescape (s : ByteArray) (w : World) (hs : s.size ≤ 2097152) (hw : Pl.wf s.data.toList = true) :
    Calls Try.prog 38 #[.string s, .bool false] w fun e w' => e = .returned (.string ⟨(Pl.dec s.data.toList).toArray⟩) ∧ Below w.heap.size w w' := by
  have h1 := Lib.indexByte_ge s.data.toList 37
  by_cases h : Lib.indexByte s.data.toList 37 = -1
  · exact unescape_no s w h
  · obtain ⟨k, hk⟩ := Int.eq_ofNat_of_zero_le (show 0 ≤ Lib.indexByte s.data.toList 37 by omega)
    exact unescape_yes s k w hs hw hk

end Go.Proofs.Qxb6001154a
