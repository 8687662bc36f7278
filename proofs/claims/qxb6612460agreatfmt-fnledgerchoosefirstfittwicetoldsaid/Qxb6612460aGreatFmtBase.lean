import Derived.Test.Qxb6612460aGreatFmtRows
import Derived.WalkKit
import Derived.WalkSpells
import Derived.WalkLawsBesides
import Derived.Deep.RegionWith
import Derived.Deep.Cut
import Derived.Deep.CutRange
import Derived.BigQuiet
import Derived.OneCell
import Derived.Lib.LazyBuf
namespace Go.Proofs.Qxb6612460aGreatFmt
open Go.RowKit

theorem ret_val {a b : Value} (h : a = b) : Ending.returned a = .returned b := by rw [h]
theorem ret_bool {a b : Bool} (h : a = b) : Ending.returned (.bool a) = .returned (.bool b) := by rw [h]

/-- The cells xs lie one behind the other from address a on. -/
def RowAt (w : World) (a : Option Addr) (xs : List Value) : Prop :=
  ∀ k x, xs[k]? = some x → ∃ b off, a = some ⟨b, off, none⟩ ∧ w.cell? ⟨b, off + k, none⟩ = some x

theorem cell_lt {w : World} {p : Addr} {v : Value} (h : w.cell? p = some v) : p.block < w.heap.size := by
  rcases Nat.lt_or_ge p.block w.heap.size with h1 | h1
  · exact h1
  · unfold World.cell? at h
    rw [Array.getElem?_eq_none h1] at h
    cases h

theorem RowAt.below {w w' : World} {a : Option Addr} {xs : List Value} (h : RowAt w a xs) (hb : Below w.heap.size w w') : RowAt w' a xs := by
  intro k x hx
  obtain ⟨b, off, ha, hc⟩ := h k x hx
  exact ⟨b, off, ha, by rw [hb.cell (cell_lt hc)]; exact hc⟩

theorem RowAt.belowB {w w' : World} {a : Option Addr} {xs : List Value} {B : Nat} (h : RowAt w a xs) (hb : Below B w w') (hB : ∀ b off, a = some ⟨b, off, none⟩ → b < B) : RowAt w' a xs := by
  intro k x hx
  obtain ⟨b, off, ha, hc⟩ := h k x hx
  exact ⟨b, off, ha, by rw [hb.cell (p := ⟨b, off + k, none⟩) (hB b off ha)]; exact hc⟩

theorem row_str {w : World} {a : Option Addr} {ss : List ByteArray} (h : RowAt w a (ss.map Value.string)) (k : Nat) (hk : k < ss.length) :
    ∃ b off, a = some ⟨b, off, none⟩ ∧ w.cell? ⟨b, off + k, none⟩ = some (.string ss[k]) :=
  h k _ (by simp [List.getElem?_eq_getElem hk])
theorem row_bool {w : World} {a : Option Addr} {ss : List Bool} (h : RowAt w a (ss.map Value.bool)) (k : Nat) (hk : k < ss.length) :
    ∃ b off, a = some ⟨b, off, none⟩ ∧ w.cell? ⟨b, off + k, none⟩ = some (.bool ss[k]) :=
  h k _ (by simp [List.getElem?_eq_getElem hk])
theorem row_i64 {w : World} {a : Option Addr} {ss : List Int} (h : RowAt w a (ss.map (Value.int .i64))) (k : Nat) (hk : k < ss.length) :
    ∃ b off, a = some ⟨b, off, none⟩ ∧ w.cell? ⟨b, off + k, none⟩ = some (.int .i64 ss[k]) :=
  h k _ (by simp [List.getElem?_eq_getElem hk])

theorem heap_lt {w : World} {b : Nat} {o : Obj} (h : w.heap[b]? = some o) : b < w.heap.size := by
  rcases Nat.lt_or_ge b w.heap.size with h1 | h1
  · exact h1
  · rw [Array.getElem?_eq_none h1] at h; cases h

theorem owns_block {w : World} {base : Nat} {e : TypeId} {size : Nat} {v : Value} {n : Nat} {xs : List Value} (h : w.ownsRow base e size v n xs) : ∀ k, v.ownBlock = some k → base ≤ k := by
  intro k hk
  rcases h.2 with ⟨rfl, _⟩ | ⟨g, cap, cur, rfl, hb, _⟩
  · cases hk
  · simp only [Value.ownBlock, Option.some.injEq] at hk; omega
theorem owns_drewN {w : World} {base : Nat} {e : TypeId} {size : Nat} {v : Value} {n : Nat} {xs : List Value} (h : w.ownsRow base e size v n xs) (k : Nat) : (w.drewN k).ownsRow base e size v n xs := h
theorem ownsRow_lt {w : World} {base : Nat} {e : TypeId} {size : Nat} {v : Value} {n : Nat} {xs : List Value} (h : w.ownsRow base e size v n xs) : ∀ g, v.ownBlock = some g → g < w.heap.size := by
  intro g hg
  rcases h.2 with ⟨rfl, _⟩ | ⟨g', cap, cur, rfl, hb, hh, _⟩
  · cases hg
  · simp only [Value.ownBlock, Option.some.injEq] at hg
    subst hg
    exact heap_lt hh
theorem ownsRow_same {w w' : World} {base : Nat} {e : TypeId} {size : Nat} {v : Value} {n : Nat} {xs : List Value} (h : w.ownsRow base e size v n xs) (hs : ∀ g, v.ownBlock = some g → w'.heap[g]? = w.heap[g]?) : w'.ownsRow base e size v n xs := by
  refine ⟨h.1, ?_⟩
  rcases h.2 with h' | ⟨g', cap, cur, rfl, hb, hh, r⟩
  · exact .inl h'
  · exact .inr ⟨g', cap, cur, rfl, hb, (hs g' rfl).trans hh, r⟩
theorem owns_below {w w' : World} {base : Nat} {e : TypeId} {size : Nat} {v : Value} {n : Nat} {xs : List Value} (h : w.ownsRow base e size v n xs) (hb : Below w.heap.size w w') : w'.ownsRow base e size v n xs :=
  ownsRow_same h (fun g hg => hb.block g (ownsRow_lt h g hg))
theorem owns_form' {w : World} {base : Nat} {e : TypeId} {size : Nat} {v : Value} {n : Nat} {xs : List Value} (h : w.ownsRow base e size v n xs) (hn : 0 < n) : ∃ g cap, v = .slice (some ⟨g, 0, none⟩) n cap := by
  rcases h.2 with ⟨_, h0⟩ | ⟨g, cap, cur, hv, _⟩
  · omega
  · exact ⟨g, cap, hv⟩
theorem below_append {w wr w3 : World} {v : Value} {o : Obj} (hbel : Below w.heap.size w wr) (hg : (wr.alloc o).grownBy w3 v.ownBlock) (hv : ∀ k, v.ownBlock = some k → w.heap.size ≤ k) : Below w.heap.size w w3 :=
  (hbel.alloc hbel.size o).grown hg (by have := hbel.size; simp; omega) hv
theorem cell_grown {w w' : World} (h : w.grownBy w' none) {p : Addr} (hp : p.block < w.heap.size) : w'.cell? p = w.cell? p :=
  ((Below.refl w.heap.size w).grown h (Nat.le_refl _) (fun k h => by cases h)).cell hp
theorem below_drewN {B : Nat} {a w : World} (h : Below B a w) (n : Nat) : Below B a (w.drewN n) := ⟨h.os, h.tape, h.output, h.size, h.block⟩

theorem isEmpty_no {x : ByteArray} (h : ¬ x.size = 0) : x.toList.isEmpty = false := by
  rw [ByteArray.toList_eq]
  cases hx : x.data.toList with
  | nil => exact absurd (show x.data.toList.length = 0 by rw [hx]; rfl) h
  | cons a r => rfl

end Go.Proofs.Qxb6612460aGreatFmt
