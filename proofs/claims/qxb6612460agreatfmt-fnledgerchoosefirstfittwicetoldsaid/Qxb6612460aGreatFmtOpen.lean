/-
  Opening the arguments of the seat's laws: a slice of strings, a slice of bools.
-/
import Derived.Test.Qxb6612460aGreatFmtBase
import Derived.ProofKit
import Derived.OpenShut
import Derived.SliceStrings
import Derived.SizedLaws
import Derived.ChangeOld
import Derived.Deep.Grids
namespace Go.Proofs.Qxb6612460aGreatFmt
open Go.ChangeShapes Go.WideShapes Go.ChangeAt Go.RowKit

theorem row_open {w : World} {x : Addr} {xs : List Value} (h : ∀ i v, xs[i]? = some v → w.cell? (x.add i) = some v) : RowAt w (some x) xs := by
  intro k v hv
  have h0 : ∃ v0, xs[0]? = some v0 := by
    rcases Nat.eq_zero_or_pos xs.length with h1 | h1
    · have : xs = [] := List.eq_nil_of_length_eq_zero h1
      subst this; simp at hv
    · exact ⟨_, List.getElem?_eq_getElem h1⟩
  obtain ⟨v0, hv0⟩ := h0
  obtain ⟨b, off, spot⟩ := x
  have hspot : spot = none := by simpa [Addr.add] using World.cell?_spot (h 0 v0 hv0)
  subst hspot
  exact ⟨b, off, rfl, by rw [← Go.WideShapes.add_plain]; exact h k v hv⟩

section
variable {H : Type} {enc : TypeId × Value → H} {W : World}

/-- A []string that came in. -/
theorem open_txts {base : Nat} {sp : Nat → Bool} {held : Bool} {fuel : Nat} {a : Option Addr} {len cap : Nat} {d : DataW H} {ps : List MemPlace} (hf : DataW.trod enc Tryz.prog W base sp held fuel 41 (Value.cells (.slice a len cap)).toList = some (d, ps)) :
    ∃ ss : List ByteArray, ss.length = len ∧ RowAt W a (ss.map Value.string) ∧ (∀ s ∈ ss, s.size ≤ 9223372036854775807) ∧ len ≤ 9223372036854775807 := by
  have hmx : maxLen = 9223372036854775807 := rfl
  rcases open_strings Tryz.underlying41 Tryz.underlying9 (by kernel_rfl) hf with ⟨hcs, _⟩ | ⟨x, l, c, zs, hcs, _, hl, hm, hz, hx, hcell, hwz⟩
  · simp [Value.cells] at hcs
    obtain ⟨rfl, rfl, rfl⟩ := hcs
    exact ⟨[], rfl, by intro k v hv; simp at hv, (by intro k hk; simp at hk), by omega⟩
  · simp [Value.cells] at hcs
    obtain ⟨rfl, rfl, rfl⟩ := hcs
    have hlz : len ≤ zs.length := by rw [hz]; split <;> omega
    refine ⟨zs.take len, by simp; omega, ?_, ?_, by omega⟩
    · refine row_open (fun i v hv => ?_)
      simp only [List.getElem?_map, List.getElem?_take] at hv
      split at hv
      · rename_i hi
        have hiz : i < zs.length := by omega
        rw [List.getElem?_eq_getElem hiz] at hv
        simp at hv
        subst hv
        have := hcell i hiz
        simpa [List.getD, List.getElem?_eq_getElem hiz] using this
      · simp at hv
    · intro s hs
      rw [← hmx]
      exact hwz s (List.mem_of_mem_take hs)

/-- A []bool that came in. -/
theorem open_bits {base : Nat} {held : Bool} {fuel : Nat} {a : Option Addr} {len cap : Nat} {d : DataW H} {ps : List MemPlace} (hf : DataW.trod enc Tryz.prog W base (fun _ => true) held fuel 42 (Value.cells (.slice a len cap)).toList = some (d, ps)) :
    ∃ us : List Bool, us.length = len ∧ RowAt W a (us.map Value.bool) ∧ len ≤ 9223372036854775807 := by
  have hmx : maxLen = 9223372036854775807 := rfl
  rcases Go.Deep.open_bools Tryz.underlying42 Tryz.underlying4 (by kernel_rfl) hf with ⟨hcs, _⟩ | ⟨x, l, c, B, hcs, _, hl, hm, hx, hcell⟩
  · simp [Value.cells] at hcs
    obtain ⟨rfl, rfl, rfl⟩ := hcs
    exact ⟨[], rfl, by intro k v hv; simp at hv, by omega⟩
  · simp [Value.cells] at hcs
    obtain ⟨rfl, rfl, rfl⟩ := hcs
    refine ⟨(List.range len).map B, by simp, ?_, by omega⟩
    refine row_open (fun i v hv => ?_)
    simp only [List.getElem?_map, List.map_map] at hv
    by_cases hi : i < len
    · rw [List.getElem?_range hi] at hv
      simp at hv
      subst hv
      exact hcell i (by omega)
    · rw [List.getElem?_eq_none (by simp; omega)] at hv
      simp at hv

end
end Go.Proofs.Qxb6612460aGreatFmt
