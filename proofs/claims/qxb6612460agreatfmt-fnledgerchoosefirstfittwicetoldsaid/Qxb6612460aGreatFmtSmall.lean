import Derived.Test.Qxb6612460aGreatFmtBase
namespace Go.Proofs.Qxb6612460aGreatFmt
open Go.RowKit

/-- A request with no GPU memory, no island wish and no models. -/
def reqV (cpu mem g sh : Int) : Value := .agg #[.int .i64 cpu, .int .i64 mem, .int .i64 g, .int .i64 sh, .int .i64 0, .int .i64 0, .bool false, .string ⟨#[]⟩]
def milliOf (sh : Int) : Int := if 0 < sh then sh else 1000

set_option maxRecDepth 100000 in
theorem milli (cpu mem g sh : Int) (w : World) :
    Calls Tryz.prog 49 #[reqV cpu mem g sh] w fun e w' => e = .returned (.int .i64 (milliOf sh)) ∧ Below w.heap.size w w' := by
  unfold reqV milliOf
  by_cases h : 0 < sh
  · rw [if_pos h]
    go_enter Tryz.func49, Tryz.ntmps49
    go_wp2
    go_ret
    exact ⟨rfl, (Below.refl _ _).alloc (Nat.le_refl _) _⟩
  · rw [if_neg h]
    go_enter Tryz.func49, Tryz.ntmps49
    go_wp2
    go_ret
    exact ⟨rfl, (Below.refl _ _).alloc (Nat.le_refl _) _⟩

set_option maxRecDepth 100000 in
theorem allows (s : ByteArray) (w : World) :
    Calls Tryz.prog 42 #[.agg #[.string ⟨#[]⟩], .string s] w fun e w' => e = .returned (.bool true) ∧ Below w.heap.size w w' := by
  go_enter Tryz.func42, Tryz.ntmps42
  go_wp2
  go_ret
  exact ⟨rfl, (Below.refl _ _).alloc (Nat.le_refl _) _⟩

/-- An empty mix: its three cells, no shapes. -/
def MixAt (w : World) (m : Nat) : Prop := w.cell? ⟨m, 0, none⟩ = some (.slice none 0 0) ∧ w.cell? ⟨m, 1, none⟩ = some (.slice none 0 0) ∧ w.cell? ⟨m, 2, none⟩ = some (.int .i64 0)

set_option maxRecDepth 100000 in
theorem shapeIndex (m : Nat) (v : Value) (x y z : Value) (hv : v = .agg #[x, y, z]) (w : World) (hm : MixAt w m) :
    Calls Tryz.prog 47 #[.pointer (some ⟨m, 0, none⟩), v] w fun e w' => e = .returned (.int .i64 (-1)) ∧ Below w.heap.size w w' := by
  subst hv
  obtain ⟨h0, _, _⟩ := hm
  have hlt := cell_lt h0
  simp only at hlt
  go_enter Tryz.func47, Tryz.ntmps47
  go_wp2_with fail
  go_loopw [12] (fun i wr => i = .int .i64 0 ∧ Below w.heap.size w wr) (fun _ _ => 0)
  case atStart => exact ⟨rfl, (Below.refl _ _).alloc (Nat.le_refl _) _⟩
  case round =>
    obtain ⟨rfl, hbel⟩ := hrel
    go_wp2_with fail
    go_ret
    exact ⟨rfl, hbel⟩

set_option maxRecDepth 100000 in
theorem least_nil (i : Int) (v : Int) (w : World) :
    Calls Tryz.prog 35 #[.pointer none, .int .i64 i, .int .u64 v] w fun e w' => e = .returned (.int .i64 (-9223372036854775808)) ∧ w = w' := by
  go_enter Tryz.func35, Tryz.ntmps35
  go_wp2_with fail
  go_ret
  exact ⟨rfl, rfl⟩

set_option maxRecDepth 100000 in
theorem keep_nil (i : Int) (x y : Value) (v : Int) (w : World) :
    Calls Tryz.prog 36 #[.pointer none, .int .i64 i, .agg #[x, y], .int .u64 v] w fun e w' => e = .returned (.tuple #[]) ∧ Below w.heap.size w w' := by
  go_enter Tryz.func36, Tryz.ntmps36
  go_wp2_with fail
  refine bodyPost_end (results_none rfl _ _ _) rfl ⟨rfl, ?_⟩
  first | exact Below.refl _ _ | exact (Below.refl _ _).alloc (Nat.le_refl _) _

set_option maxRecDepth 100000 in
theorem recalled_nil (s : Nat) (b : Value) (v : Value) (a : Option Addr) (l c : Nat) (hv : v = .slice a l c) (w : World) (h : w.cell? ⟨s, 3, none⟩ = some v) :
    Calls Tryz.prog 33 #[.pointer none, .pointer (some ⟨s, 0, none⟩), b] w fun e w' => e = .returned v ∧ w = w' := by
  subst hv
  go_enter Tryz.func33, Tryz.ntmps33
  go_wp2_with fail
  go_ret
  exact ⟨rfl, rfl⟩

/-- GPU id of the books at b is healthy (hv) or not. -/
def HealthAt (w : World) (b id : Nat) (hv : Bool) : Prop :=
  ∃ a l c, w.cell? ⟨b, 5, none⟩ = some (.slice a l c) ∧ ((l = 0 ∧ hv = true) ∨ (id < l ∧ ∃ d off, a = some ⟨d, off, none⟩ ∧ w.cell? ⟨d, off + id * 4 + 1, none⟩ = some (.bool (!hv))))

set_option maxRecDepth 100000 in
theorem healthy (b id : Nat) (hv : Bool) (w : World) (h : HealthAt w b id hv) :
    Calls Tryz.prog 19 #[.pointer (some ⟨b, 0, none⟩), .int .i64 id] w fun e w' => e = .returned (.bool hv) ∧ w = w' := by
  obtain ⟨a, l, c, h5, h | h⟩ := h
  · obtain ⟨rfl, rfl⟩ := h
    go_enter Tryz.func19, Tryz.ntmps19
    go_wp2_with fail
    go_ret
    exact ⟨rfl, rfl⟩
  · obtain ⟨hid, d, off, rfl, hc⟩ := h
    have hnz : ((l : Int) == 0) = false := by simp; omega
    go_enter Tryz.func19, Tryz.ntmps19
    go_wp2_with fail
    go_ret
    exact ⟨by simp, rfl⟩

set_option maxRecDepth 100000 in
theorem left (b id : Nat) (hv : Bool) (w : World) (h : HealthAt w b id hv) (g off n cap : Nat) (hg : w.cell? ⟨b, 8, none⟩ = some (.slice (some ⟨g, off, none⟩) n cap)) (hn : id < n) (hc : w.cell? ⟨g, off + id, none⟩ = some (.int .i64 0)) :
    Calls Tryz.prog 26 #[.pointer (some ⟨b, 0, none⟩), .int .i64 id] w fun e w' => e = .returned (.int .i64 (if hv then 1000 else 0)) ∧ w = w' := by
  go_enter Tryz.func26, Tryz.ntmps26
  go_wp2_with fail
  refine (healthy b id hv w h).mono ?_
  rintro e w' ⟨rfl, rfl⟩
  cases hv
  · go_wp2_with fail
    go_ret
    exact ⟨rfl, rfl⟩
  · go_wp2_with fail
    go_ret
    exact ⟨rfl, rfl⟩

end Go.Proofs.Qxb6612460aGreatFmt
