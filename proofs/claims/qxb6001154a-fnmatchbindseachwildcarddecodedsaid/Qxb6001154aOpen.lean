import Derived.Test.Qxb6001154aStrs
import Derived.ProofKit
import Derived.OpenShut
import Derived.SliceStrings
import Derived.SizedLaws
import Derived.ChangeOld
namespace Go.Proofs.Qxb6001154a
open Go.ChangeShapes Go.WideShapes Go.ChangeAt Go.RowKit

theorem row_open {w : World} {x : Addr} {xs : List Value} (h : ∀ i v, xs[i]? = some v → w.cell? (x.add i) = some v) : RowAt w (some x) xs := by
  intro k v hv
  have h0 : ∃ v0, xs[0]? = some v0 := by
    rcases Nat.eq_zero_or_pos xs.length with h1 | h1
    · have : xs = [] := List.eq_nil_of_length_eq_zero h1
      subst this; simp at hv
    · exact ⟨_, List.getElem?_eq_getElem h1⟩
  obtain ⟨v0, hv0⟩ := h0
  obtain ⟨b, off, spot⟩ := x
  have hspot : spot = none := by simpa [Addr.add] using World.cell?_spot (h 0 v0 hv0)
  subst hspot
  exact ⟨b, off, rfl, by rw [← Go.WideShapes.add_plain]; exact h k v hv⟩

section
variable {H : Type} {enc : TypeId × Value → H} {W : World} {ts : List TypeId} {ds : List (DataW H)}

/-- A []byte that came in. -/
theorem open_u8s {base : Nat} {sp : Nat → Bool} {held : Bool} {fuel : Nat} {a : Option Addr} {len cap : Nat} {d : DataW H} {ps : List MemPlace} (hf : DataW.trod enc Try.prog W base sp held fuel 53 (Value.cells (.slice a len cap)).toList = some (d, ps))
    (hsz : (DataW.weightsEach Try.prog ts ds).all (· ≤ reachBytes) = true) {j : Nat} (ht : ts[j]? = some 53) (hd : ds[j]? = some d) :
    ∃ ks : List Int, ks.length = len ∧ RowAt W a (ks.map (Value.int .u8)) ∧ (∀ k ∈ ks, 0 ≤ k ∧ k ≤ 255) ∧ len ≤ 140737488355328 := by
  rcases open_ints Try.underlying53 Try.underlying5 (by kernel_rfl) hf with ⟨hcs, _⟩ | ⟨x, l, c, zs, hcs, _, hl, hm, hz, hx, hcell, hwz⟩
  · simp [Value.cells] at hcs
    obtain ⟨rfl, rfl, rfl⟩ := hcs
    exact ⟨[], rfl, by intro k v hv; simp at hv, (by intro k hk; simp at hk), by omega⟩
  · simp [Value.cells] at hcs
    obtain ⟨rfl, rfl, rfl⟩ := hcs
    have hlz : len ≤ zs.length := by rw [hz]; split <;> omega
    refine ⟨zs.take len, by simp; omega, ?_, ?_, ?_⟩
    · refine row_open (fun i v hv => ?_)
      simp only [List.getElem?_map, List.getElem?_take] at hv
      split at hv
      · rename_i hi
        have hiz : i < zs.length := by omega
        rw [List.getElem?_eq_getElem hiz] at hv
        simp at hv
        subst hv
        have := hcell i hiz
        simpa [List.getD, List.getElem?_eq_getElem hiz] using this
      · simp at hv
    · intro k hk
      exact bounds_u8 (hwz k (List.mem_of_mem_take hk))
    · simp only [Prod.mk.injEq] at hx
      obtain ⟨rfl, -⟩ := hx
      have hb : Try.prog.bytesOf 5 = 1 := by kernel_rfl
      have h1 := sized_slice hsz ht hd Try.underlying53
      rw [hb] at h1
      have h2 := reachBytes_lt
      simp [lits] at h1
      omega

theorem strs_weight {P : Program} {e : TypeId} : ∀ (l : List ByteArray) (s : ByteArray), s ∈ l → s.size ∈ DataW.weightsAll (H := H) P e (strs l)
  | x :: r, s, h => by
    rcases List.mem_cons.1 h with rfl | h
    · simp [strs, DataW.weightsAll, DataW.weights]
    · have := strs_weight (P := P) (e := e) r s h
      simp only [strs, List.map_cons, DataW.weightsAll, List.mem_append]
      exact Or.inr this

/-- A []string that came in. -/
theorem open_txts {base : Nat} {sp : Nat → Bool} {held : Bool} {fuel : Nat} {a : Option Addr} {len cap : Nat} {d : DataW H} {ps : List MemPlace} (hf : DataW.trod enc Try.prog W base sp held fuel 26 (Value.cells (.slice a len cap)).toList = some (d, ps))
    (hsz : (DataW.weightsEach Try.prog ts ds).all (· ≤ reachBytes) = true) {j : Nat} (ht : ts[j]? = some 26) (hd : ds[j]? = some d) :
    ∃ ss : List ByteArray, ss.length = len ∧ RowAt W a (ss.map Value.string) ∧ (∀ s ∈ ss, s.size ≤ 140737488355328) ∧ len ≤ 140737488355328 := by
  rcases open_strings Try.underlying26 Try.underlying9 (by kernel_rfl) hf with ⟨hcs, _⟩ | ⟨x, l, c, zs, hcs, _, hl, hm, hz, hx, hcell, hwz⟩
  · simp [Value.cells] at hcs
    obtain ⟨rfl, rfl, rfl⟩ := hcs
    exact ⟨[], rfl, by intro k v hv; simp at hv, (by intro k hk; simp at hk), by omega⟩
  · simp [Value.cells] at hcs
    obtain ⟨rfl, rfl, rfl⟩ := hcs
    have hlz : len ≤ zs.length := by rw [hz]; split <;> omega
    simp only [Prod.mk.injEq] at hx
    obtain ⟨rfl, -⟩ := hx
    have h2 := reachBytes_lt
    refine ⟨zs.take len, by simp; omega, ?_, ?_, ?_⟩
    · refine row_open (fun i v hv => ?_)
      simp only [List.getElem?_map, List.getElem?_take] at hv
      split at hv
      · rename_i hi
        have hiz : i < zs.length := by omega
        rw [List.getElem?_eq_getElem hiz] at hv
        simp at hv
        subst hv
        have := hcell i hiz
        simpa [List.getD, List.getElem?_eq_getElem hiz] using this
      · simp at hv
    · intro s hs
      have hw := DataW.weights_mem_each (P := Try.prog) ht hd s.size (by
        simp only [DataW.weights, Try.underlying26, List.mem_cons, List.mem_append]
        exact Or.inr (Or.inl (strs_weight _ _ hs)))
      have := List.all_eq_true.1 hsz _ hw
      simp at this
      omega
    · have hb : Try.prog.bytesOf 9 = 16 := by kernel_rfl
      have h1 := sized_slice hsz ht hd Try.underlying26
      rw [hb] at h1
      simp [strs] at h1
      omega

end

end Go.Proofs.Qxb6001154a
