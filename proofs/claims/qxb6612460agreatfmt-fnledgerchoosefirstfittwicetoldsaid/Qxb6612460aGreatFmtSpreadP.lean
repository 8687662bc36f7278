import Derived.Test.Qxb6612460aGreatFmtPickA
namespace Go.Proofs.Qxb6612460aGreatFmt

/-! ### The plain side of spread -/
def sumN : List Nat → Nat
  | [] => 0
  | x :: r => x + sumN r

theorem sumN_set : ∀ (xs : List Nat) (i v : Nat), i < xs.length → sumN (xs.set i v) + xs[i]?.getD 0 = sumN xs + v
  | [], i, v, h => by simp at h
  | x :: r, 0, v, _ => by simp [sumN]; omega
  | x :: r, i + 1, v, h => by
    have := sumN_set r i v (by simpa using h)
    simp only [List.set_cons_succ, sumN, List.getElem?_cons_succ]
    omega

theorem sumN_le : ∀ (xs ys : List Nat), xs.length = ys.length → (∀ i : Nat, ys[i]?.getD 0 ≤ xs[i]?.getD 0) → sumN ys ≤ sumN xs
  | [], [], _, _ => Nat.le_refl _
  | [], y :: r, h, _ => by simp at h
  | x :: r, [], h, _ => by simp at h
  | x :: r, y :: s, h, hle => by
    have h0 := hle 0
    have := sumN_le r s (by simpa using h) (fun i => by have := hle (i + 1); simpa using this)
    simp only [sumN, List.getElem?_cons_zero, Option.getD_some] at *
    omega

/-- What the takes are while spread goes on: none or all of an island. -/
def Takes (fr xs : List Nat) (k0 kk : Nat) : Prop := xs.length = fr.length ∧ (∀ i : Nat, xs[i]?.getD 0 = 0 ∨ xs[i]?.getD 0 = fr[i]?.getD 0) ∧ sumN xs + kk = k0

theorem takes_start (fr : List Nat) (k : Nat) : Takes fr (List.replicate fr.length 0) k k := by
  refine ⟨by simp, fun i => .inl ?_, ?_⟩
  · by_cases h : i < fr.length
    · simp [h]
    · simp [h]
  · have : ∀ n, sumN (List.replicate n 0) = 0 := by
      intro n
      induction n with
      | zero => rfl
      | succ n ih => simp [List.replicate_succ, sumN, ih]
    rw [this]; omega

theorem takes_next {fr xs : List Nat} {k0 kk i : Nat} (h : Takes fr xs k0 kk) (hi : i < fr.length) (h0 : xs[i]?.getD 0 = 0) (hlt : fr[i]?.getD 0 < kk) : Takes fr (xs.set i (fr[i]?.getD 0)) k0 (kk - fr[i]?.getD 0) := by
  obtain ⟨h1, h2, h3⟩ := h
  refine ⟨by simp [h1], fun j => ?_, ?_⟩
  · by_cases hj : j = i
    · subst hj
      right
      rw [List.getElem?_set_self (by omega)]
      rfl
    · rw [List.getElem?_set_ne (Ne.symm hj)]
      exact h2 j
  · have := sumN_set xs i (fr[i]?.getD 0) (by omega)
    omega

/-- None is left to take: then all is taken. -/
theorem takes_none {fr xs : List Nat} {k0 kk : Nat} (h : Takes fr xs k0 kk) (hk : k0 ≤ sumN fr) (hn : ∀ i, i < fr.length → ¬ (xs[i]?.getD 0 = 0 ∧ 0 < fr[i]?.getD 0)) : kk = 0 := by
  obtain ⟨h1, h2, h3⟩ := h
  have : sumN fr ≤ sumN xs := by
    refine sumN_le xs fr h1 (fun i => ?_)
    by_cases hi : i < fr.length
    · rcases h2 i with h | h
      · have := hn i hi
        rw [h]
        rcases Nat.eq_zero_or_pos (fr[i]?.getD 0) with e | e
        · omega
        · exact absurd ⟨h, e⟩ this
      · omega
    · rw [List.getElem?_eq_none (by omega)]
      simp
  omega

/-- What spread gives. -/
def Given (fr xs : List Nat) (k : Nat) : Prop := xs.length = fr.length ∧ (∀ i : Nat, xs[i]?.getD 0 ≤ fr[i]?.getD 0) ∧ sumN xs = k

theorem given_zero {fr xs : List Nat} {k0 : Nat} (h : Takes fr xs k0 0) : Given fr xs k0 := by
  obtain ⟨h1, h2, h3⟩ := h
  refine ⟨h1, fun i => ?_, by omega⟩
  rcases h2 i with h | h <;> omega
theorem given_last {fr xs : List Nat} {k0 kk i : Nat} (h : Takes fr xs k0 kk) (hi : i < fr.length) (h0 : xs[i]?.getD 0 = 0) (hle : kk ≤ fr[i]?.getD 0) : Given fr (xs.set i kk) k0 := by
  obtain ⟨h1, h2, h3⟩ := h
  refine ⟨by simp [h1], fun j => ?_, ?_⟩
  · by_cases hj : j = i
    · subst hj
      rw [List.getElem?_set_self (by omega)]
      exact hle
    · rw [List.getElem?_set_ne (Ne.symm hj)]
      rcases h2 j with h | h <;> omega
  · have := sumN_set xs i kk (by omega)
    omega

end Go.Proofs.Qxb6612460aGreatFmt
