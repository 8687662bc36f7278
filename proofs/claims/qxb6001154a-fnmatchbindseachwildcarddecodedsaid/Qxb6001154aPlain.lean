namespace Go.Proofs.Qxb6001154a.Pl

/-- A hexadecimal digit. -/
def hexB (c : Nat) : Bool := (48 ≤ c && c ≤ 57) || (97 ≤ c && c ≤ 102) || (65 ≤ c && c ≤ 70)
/-- Its value (0 for another byte). -/
def hexV (c : Nat) : Nat := if 48 ≤ c ∧ c ≤ 57 then c - 48 else if 97 ≤ c ∧ c ≤ 102 then c - 87 else if 65 ≤ c ∧ c ≤ 70 then c - 55 else 0

theorem hexV_lt (c : Nat) : hexV c < 16 := by unfold hexV; split <;> (try split) <;> (try split) <;> omega

theorem hex_cases (c : Nat) : (48 ≤ c ∧ c ≤ 57 ∧ hexV c = c - 48 ∧ hexB c = true) ∨ (97 ≤ c ∧ c ≤ 102 ∧ hexV c = c - 87 ∧ hexB c = true) ∨
    (65 ≤ c ∧ c ≤ 70 ∧ hexV c = c - 55 ∧ hexB c = true) ∨ (¬ (48 ≤ c ∧ c ≤ 57) ∧ ¬ (97 ≤ c ∧ c ≤ 102) ∧ ¬ (65 ≤ c ∧ c ≤ 70) ∧ hexV c = 0 ∧ hexB c = false) := by
  by_cases h1 : 48 ≤ c ∧ c ≤ 57
  · exact .inl ⟨h1.1, h1.2, by simp [hexV, h1], by simp [hexB, h1]⟩
  · by_cases h2 : 97 ≤ c ∧ c ≤ 102
    · exact .inr (.inl ⟨h2.1, h2.2, by simp only [hexV, if_neg h1, if_pos h2], by simp [hexB, h2]⟩)
    · by_cases h3 : 65 ≤ c ∧ c ≤ 70
      · exact .inr (.inr (.inl ⟨h3.1, h3.2, by simp only [hexV, if_neg h1, if_neg h2, if_pos h3], by simp [hexB, h3]⟩))
      · refine .inr (.inr (.inr ⟨h1, h2, h3, by simp only [hexV, if_neg h1, if_neg h2, if_neg h3], ?_⟩))
        rw [Bool.eq_false_iff]
        intro h
        simp [hexB] at h
        omega

/-- The octet that two hexadecimal digits stand for. -/
def oct (a b : UInt8) : UInt8 := UInt8.ofNat (hexV a.toNat * 16 + hexV b.toNat)

/-- Every percent sign begins a percent-encoded octet. -/
def wf : List UInt8 → Bool
  | [] => true
  | c :: r => if c = 37 then (match r with
      | a :: b :: r' => hexB a.toNat && hexB b.toNat && wf r'
      | _ => false) else wf r

/-- Percent-decoded. -/
def dec : List UInt8 → List UInt8
  | [] => []
  | c :: r => if c = 37 then (match r with
      | a :: b :: r' => oct a b :: dec r'
      | [a] => 37 :: dec [a]
      | [] => [37]) else c :: dec r

theorem wf_cons_ne {c : UInt8} {r : List UInt8} (h : c ≠ 37) : wf (c :: r) = wf r := by rw [wf.eq_def]; exact if_neg h
theorem wf_pct {a b : UInt8} {r : List UInt8} : wf (37 :: a :: b :: r) = (hexB a.toNat && hexB b.toNat && wf r) := by rw [wf.eq_def]; rfl
theorem wf_pct1 {a : UInt8} : wf [37, a] = false := by rw [wf.eq_def]; rfl
theorem wf_pct0 : wf [37] = false := by rw [wf.eq_def]; rfl
theorem dec_cons_ne {c : UInt8} {r : List UInt8} (h : c ≠ 37) : dec (c :: r) = c :: dec r := by rw [dec.eq_def]; exact if_neg h
theorem dec_pct {a b : UInt8} {r : List UInt8} : dec (37 :: a :: b :: r) = oct a b :: dec r := by rw [dec.eq_def]; rfl

theorem drop_step (l : List UInt8) (k : Nat) (h : k < l.length) : l.drop k = l[k] :: l.drop (k + 1) := List.drop_eq_getElem_cons h

theorem wf_at_ne (l : List UInt8) (k : Nat) (h : k < l.length) (hc : l[k] ≠ 37) : wf (l.drop k) = wf (l.drop (k + 1)) := by
  rw [drop_step l k h, wf_cons_ne hc]
theorem wf_at_short (l : List UInt8) (k : Nat) (h : k < l.length) (hc : l[k] = 37) (hs : l.length ≤ k + 2) : wf (l.drop k) = false := by
  rw [drop_step l k h, hc]
  by_cases h1 : k + 1 < l.length
  · rw [drop_step l (k + 1) h1, List.drop_eq_nil_of_le (by omega)]; exact wf_pct1
  · rw [List.drop_eq_nil_of_le (by omega)]; exact wf_pct0
theorem wf_at_pct (l : List UInt8) (k : Nat) (h : k + 2 < l.length) (hc : l[k] = 37) :
    wf (l.drop k) = (hexB (l[k + 1]).toNat && hexB (l[k + 2]).toNat && wf (l.drop (k + 3))) := by
  rw [drop_step l k (by omega), hc, drop_step l (k + 1) (by omega), drop_step l (k + 2) h, wf_pct]
theorem dec_at_ne (l : List UInt8) (k : Nat) (h : k < l.length) (hc : l[k] ≠ 37) : dec (l.drop k) = l[k] :: dec (l.drop (k + 1)) := by
  rw [drop_step l k h, dec_cons_ne hc]
theorem dec_at_pct (l : List UInt8) (k : Nat) (h : k + 2 < l.length) (hc : l[k] = 37) :
    dec (l.drop k) = oct (l[k + 1]) (l[k + 2]) :: dec (l.drop (k + 3)) := by
  rw [drop_step l k (by omega), hc, drop_step l (k + 1) (by omega), drop_step l (k + 2) h, dec_pct]

theorem wf_nil : wf [] = true := by rw [wf]
theorem dec_nil : dec [] = [] := by rw [dec]

theorem wf_length_pct (l : List UInt8) (k : Nat) (h : k < l.length) (hc : l[k] = 37) (hw : wf (l.drop k) = true) : k + 2 < l.length := by
  rcases Nat.lt_or_ge (k + 2) l.length with h2 | h2
  · exact h2
  · rw [wf_at_short l k h hc h2] at hw; cases hw

/-- No percent sign ahead of place k: the decoding leaves what stands there. -/
theorem dec_prefix (l : List UInt8) : ∀ k, k ≤ l.length → (∀ j (hj : j < l.length), j < k → l[j] ≠ 37) → l.take k ++ dec (l.drop k) = dec l ∧ (wf (l.drop k) = wf l)
  | 0, _, _ => by simp
  | k + 1, h, hn => by
    obtain ⟨h1, h2⟩ := dec_prefix l k (by omega) (fun j hj hjk => hn j hj (by omega))
    have hne := hn k (by omega) (by omega)
    rw [dec_at_ne l k (by omega) hne] at h1
    rw [wf_at_ne l k (by omega) hne] at h2
    refine ⟨?_, h2⟩
    rw [List.take_succ_eq_append_getElem (by omega), List.append_assoc]
    exact h1

theorem dec_length_le : ∀ l : List UInt8, (dec l).length ≤ l.length
  | [] => by rw [dec_nil]; exact Nat.le_refl _
  | c :: r => by
    rw [dec.eq_def]
    dsimp only
    split
    · match r with
      | [] => simp
      | [a] => have := dec_length_le [a]; simp at this ⊢; omega
      | a :: b :: r' => have := dec_length_le r'; simp; omega
    · have := dec_length_le r; simp; omega

end Go.Proofs.Qxb6001154a.Pl
