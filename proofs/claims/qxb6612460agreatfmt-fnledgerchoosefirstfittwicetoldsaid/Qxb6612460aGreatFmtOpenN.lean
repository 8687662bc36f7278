/-
  Opening slices of integers.
-/
import Derived.Test.Qxb6612460aGreatFmtOpen
import Derived.ChangeSlices
namespace Go.Proofs.Qxb6612460aGreatFmt
open Go.ChangeShapes Go.WideShapes Go.ChangeAt Go.RowKit

section
variable {H : Type} {enc : TypeId × Value → H} {W : World}

/-- A slice of 64 bit integers that came in. -/
theorem open_nums {t e : TypeId} (ht : Tryz.prog.underlying t = some (.slice e)) (he : Tryz.prog.underlying e = some (.int .i64)) (hc : Tryz.prog.cellsOf e = 1) {base : Nat} {sp : Nat → Bool} {held : Bool} {fuel : Nat} {a : Option Addr} {len cap : Nat} {d : DataW H} {ps : List MemPlace} (hf : DataW.trod enc Tryz.prog W base sp held fuel t (Value.cells (.slice a len cap)).toList = some (d, ps)) :
    ∃ ss : List Int, ss.length = len ∧ RowAt W a (ss.map (Value.int .i64)) ∧ (∀ s ∈ ss, s ≤ 9223372036854775807) ∧ len ≤ 9223372036854775807 := by
  have hmx : maxLen = 9223372036854775807 := rfl
  rcases open_ints ht he hc hf with ⟨hcs, _⟩ | ⟨x, l, c, zs, hcs, _, hl, hm, hz, hx, hcell, hwz⟩
  · simp [Value.cells] at hcs
    obtain ⟨rfl, rfl, rfl⟩ := hcs
    exact ⟨[], rfl, by intro k v hv; simp at hv, (by intro k hk; simp at hk), by omega⟩
  · simp [Value.cells] at hcs
    obtain ⟨rfl, rfl, rfl⟩ := hcs
    have hlz : len ≤ zs.length := by rw [hz]; split <;> omega
    refine ⟨zs.take len, by simp; omega, ?_, ?_, by omega⟩
    · refine row_open (fun i v hv => ?_)
      simp only [List.getElem?_map, List.getElem?_take] at hv
      split at hv
      · rename_i hi
        have hiz : i < zs.length := by omega
        rw [List.getElem?_eq_getElem hiz] at hv
        simp at hv
        subst hv
        have := hcell i hiz
        simpa [List.getD, List.getElem?_eq_getElem hiz] using this
      · simp at hv
    · intro s hs
      have w0 := hwz s (List.mem_of_mem_take hs)
      have e1 : IntKind.i64.min = -9223372036854775808 := rfl
      have e2 : IntKind.i64.max = 9223372036854775807 := rfl
      simp [Lit.wf, e1, e2] at w0
      omega

end
end Go.Proofs.Qxb6612460aGreatFmt
