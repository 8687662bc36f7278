import Derived.Test.Qxb6612460aGreatFmtPickZ
import Derived.Test.Qxb6612460aGreatFmtPickS
namespace Go.Proofs.Qxb6612460aGreatFmt
open Go.RowKit
attribute [local go_sem] Option.isNone_none Option.isNone_some
attribute [local go_sem] sUpon mUpon

theorem granted_weak {ps : List (Nat × Bool)} {k : Nat} {L : List Nat} (h : GrantedIds ps k true L) (b : Bool) : GrantedIds ps k b L := ⟨h.1, h.2.1, fun _ => h.2.2 rfl⟩
theorem pickPost_weak {w w' : World} {ps : List (Nat × Bool)} {k : Nat} {e : Ending} (h : PickPost w ps k true e w') (b : Bool) : PickPost w ps k b e w' := by
  obtain ⟨⟨g, cap, L, h1, h2, h3⟩, h4⟩ := h
  exact ⟨⟨g, cap, L, h1, h2, granted_weak h3 b⟩, h4⟩

/-- The node takes the request. -/
def Fits (cpu mem rc rm : Int) (k : Nat) (across : Bool) (fr : List Nat) : Prop :=
  ¬ (cpu < rc ∨ mem < rm) ∧ k ≤ sumN fr ∧ (k = 0 ∨ (∃ i, i < fr.length ∧ k ≤ fr[i]?.getD 0) ∨ across = true)

theorem pick_yes (b : Nat) (cpu mem rc rm : Int) (k : Nat) (across : Bool) (ps : List (Nat × Bool)) (fr : List Nat) (w : World) (hB : BooksAt w b cpu mem ps fr) (hc0 : 0 ≤ cpu) (hc1 : cpu ≤ 9223372036854775807) (hm0 : 0 ≤ mem) (hm1 : mem ≤ 9223372036854775807)
    (hk2 : k ≤ 65536) (hfl : fr.length ≤ 65536) (hpl : ps.length ≤ 65536) (hF : FrOf ps fr) (hy : Fits cpu mem rc rm k across fr) :
    Calls Tryz.prog 38 #[.pointer (some ⟨b, 0, none⟩), reqV rc rm k 0, .bool across] w (PickPost w ps k (!across)) := by
  obtain ⟨h1, h2, h3⟩ := hy
  by_cases hk : k = 0
  · exact (pick_zero b cpu mem rc rm k across ps fr w hB hc0 hc1 hm0 hm1 h1 hk).mono (fun _ _ h => pickPost_weak h _)
  by_cases hi : ∃ i, i < fr.length ∧ k ≤ fr[i]?.getD 0
  · exact (pick_isl b cpu mem rc rm k across ps fr w hB hc0 hc1 hm0 hm1 h1 h2 (by omega) hk2 hfl hpl hF hi).mono (fun _ _ h => pickPost_weak h _)
  · obtain rfl : across = true := by
      rcases h3 with h | h | h
      · exact absurd h hk
      · exact absurd h hi
      · exact h
    exact pick_spread b cpu mem rc rm k true ps fr w hB hc0 hc1 hm0 hm1 h1 h2 (by omega) hk2 hfl hpl hF rfl (fun i hil => by
      rcases Nat.lt_or_ge (fr[i]?.getD 0) k with h | h
      · exact h
      · exact absurd ⟨i, hil, h⟩ hi)

theorem pick_no (b : Nat) (cpu mem rc rm : Int) (k : Nat) (across : Bool) (ps : List (Nat × Bool)) (fr : List Nat) (w : World) (hB : BooksAt w b cpu mem ps fr) (hc0 : 0 ≤ cpu) (hc1 : cpu ≤ 9223372036854775807) (hm0 : 0 ≤ mem) (hm1 : mem ≤ 9223372036854775807)
    (hfl : fr.length ≤ 65536) (hy : ¬ Fits cpu mem rc rm k across fr) :
    Calls Tryz.prog 38 #[.pointer (some ⟨b, 0, none⟩), reqV rc rm k 0, .bool across] w fun e w' => e = .returned (.tuple #[.slice none 0 0, .bool false]) ∧ Below w.heap.size w w' := by
  by_cases h1 : cpu < rc ∨ mem < rm
  · exact pick_cpu b cpu mem rc rm k across ps fr w hB hc0 hc1 hm0 hm1 h1
  rcases Nat.lt_or_ge (sumN fr) k with h2 | h2
  · exact pick_many b cpu mem rc rm k across ps fr w hB hc0 hc1 hm0 hm1 h1 h2
  by_cases hk : k = 0
  · exact absurd ⟨h1, h2, .inl hk⟩ hy
  by_cases hi : ∃ i, i < fr.length ∧ k ≤ fr[i]?.getD 0
  · exact absurd ⟨h1, h2, .inr (.inl hi)⟩ hy
  cases across
  · exact pick_none b cpu mem rc rm k false ps fr w hB hc0 hc1 hm0 hm1 h1 h2 (by omega) rfl hfl (fun i hil => by
      rcases Nat.lt_or_ge (fr[i]?.getD 0) k with h | h
      · exact h
      · exact absurd ⟨i, hil, h⟩ hi)
  · exact absurd ⟨h1, h2, .inr (.inr rfl)⟩ hy

end Go.Proofs.Qxb6612460aGreatFmt
