import Derived.Test.Qxb6001154aWalk
namespace Go.Proofs.Qxb6001154a
open Go.RowKit

def SomeBool (e : Ending) : Prop := ∃ b, e = .returned (.bool b)

set_option maxRecDepth 100000 in
set_option maxHeartbeats 1000000 in
theorem zzBytesKeeps (a1 : Option Addr) (l1 c1 : Nat) (a2 : Option Addr) (c2 : Nat) (ss : List ByteArray) (a3 : Option Addr) (l3 c3 : Nat) (a4 : Option Addr) (c4 : Nat) (ts : List ByteArray) (p q : Int) (w : World)
    (hr : RowAt w a2 (ss.map Value.string)) (hr2 : RowAt w a4 (ts.map Value.string)) (h1 : l1 ≤ 140737488355328) (h2 : ss.length ≤ 140737488355328) (h3 : l3 ≤ 140737488355328) (h4 : ts.length ≤ 140737488355328)
    (hz : ∀ s ∈ ss, s.size ≤ 140737488355328) (hz2 : ∀ s ∈ ts, s.size ≤ 140737488355328) :
    Calls Try.prog 36 #[.slice a1 l1 c1, .slice a2 ss.length c2, .slice a3 l3 c3, .slice a4 ts.length c4, .int .i64 p, .int .i64 q] w fun e w' => SomeBool e ∧ w = w' := by
  have HR : Hid (RowAt w a2 (ss.map Value.string)) := hr
  have HR2 : Hid (RowAt w a4 (ts.map Value.string)) := hr2
  have HZ : Hid (∀ s ∈ ss, s.size ≤ 140737488355328) := hz
  have HZ2 : Hid (∀ s ∈ ts, s.size ≤ 140737488355328) := hz2
  clear hr hr2 hz hz2
  by_cases b1 : 1048576 < l1
  · go_enter Try.func36, Try.ntmps36
    go_wp2
    go_ret
    exact ⟨⟨_, rfl⟩, rfl⟩
  by_cases b2 : 1048576 < ss.length
  · go_enter Try.func36, Try.ntmps36
    go_wp2
    go_ret
    exact ⟨⟨_, rfl⟩, rfl⟩
  by_cases b3 : 1048576 < l1 + ss.length
  · go_enter Try.func36, Try.ntmps36
    go_wp2
    go_ret
    exact ⟨⟨_, rfl⟩, rfl⟩
  go_enter Try.func36, Try.ntmps36
  go_wp2
  go_loop [13, 14] (fun t i => ∃ k n : Nat, k ≤ ss.length ∧ i = .int .i64 k ∧ t = .int .i64 n ∧ n ≤ 1048576) (fun _ i => ss.length - (intOf i).toNat)
  case atStart => exact ⟨0, l1 + ss.length, Nat.zero_le _, rfl, by go_num, by omega⟩
  case round =>
    obtain ⟨k, n, hk, rfl, rfl, hn⟩ := hrel
    by_cases hlt : k < ss.length
    · obtain ⟨b, off, ha, hcell⟩ := row_str HR.out k hlt
      subst ha
      have hzk := HZ.out ss[k] (List.getElem_mem hlt)
      generalize ss[k] = x at *
      by_cases g1 : 1048576 < x.size
      · go_wp2
        go_ret
        exact ⟨⟨_, rfl⟩, rfl⟩
      by_cases g2 : 1048576 < n + x.size
      · go_wp2
        go_ret
        exact ⟨⟨_, rfl⟩, rfl⟩
      go_wp2
      go_round
      case rel => exact ⟨k + 1, n + x.size, by omega, by go_num, by go_num, by omega⟩
      case measure => simp [intOf]; omega
    · by_cases b4 : 1048576 < l3
      · go_wp2
        go_ret
        exact ⟨⟨_, rfl⟩, rfl⟩
      by_cases b5 : 1048576 < n + l3
      · go_wp2
        go_ret
        exact ⟨⟨_, rfl⟩, rfl⟩
      by_cases b6 : 1048576 < ts.length
      · go_wp2
        go_ret
        exact ⟨⟨_, rfl⟩, rfl⟩
      by_cases b7 : 1048576 < n + l3 + ts.length
      · go_wp2
        go_ret
        exact ⟨⟨_, rfl⟩, rfl⟩
      go_wp2
      go_loop [13, 15] (fun t i => ∃ k n : Nat, k ≤ ts.length ∧ i = .int .i64 k ∧ t = .int .i64 n ∧ n ≤ 1048576) (fun _ i => ts.length - (intOf i).toNat)
      case atStart => exact ⟨0, n + l3 + ts.length, Nat.zero_le _, rfl, by go_num, by omega⟩
      case round =>
        obtain ⟨k2, n2, hk2, rfl, rfl, hn2⟩ := hrel
        by_cases hlt2 : k2 < ts.length
        · obtain ⟨b, off, ha, hcell⟩ := row_str HR2.out k2 hlt2
          subst ha
          have hzk := HZ2.out ts[k2] (List.getElem_mem hlt2)
          generalize ts[k2] = x at *
          by_cases g1 : 1048576 < x.size
          · go_wp2
            go_ret
            exact ⟨⟨_, rfl⟩, rfl⟩
          by_cases g2 : 1048576 < n2 + x.size
          · go_wp2
            go_ret
            exact ⟨⟨_, rfl⟩, rfl⟩
          go_wp2
          go_round
          case rel => exact ⟨k2 + 1, n2 + x.size, by omega, by go_num, by go_num, by omega⟩
          case measure => simp [intOf]; omega
        · go_wp2
          go_ret
          exact ⟨⟨_, rfl⟩, rfl⟩

set_option maxHeartbeats 400000 in
theorem zzAdd (base : Nat) (G0 : Gr) (own0 : Nat → Nat × Nat) (n0 : Nat) (a : Option Addr) (cap : Nat) (segs : List (Nat × ByteArray)) (p : Int) (w : World) (hI : Inv w base G0 own0) (hn : ∃ r, G0 n0 = some r) (hr : RowAt w a (segCells segs))
    (hrb : ∀ b off, a = some ⟨b, off, none⟩ → b < base) (hbase : base ≤ w.heap.size) (hws : ∀ s ∈ segs, s.1 ≤ 2 ∧ s.2.size ≤ 2097152 ∧ Pl.wf s.2.data.toList = true) (hl : segs.length ≤ 65536) (hlb : ∀ b d, (lst G0 b d).length ≤ 65536) :
    Calls Try.prog 33 #[.pointer (some ⟨n0, 0, none⟩), .slice a segs.length cap, .int .i64 p] w fun e w' => e = .returned (.tuple #[]) ∧ Added base G0 n0 segs p w' ∧ Below base w w' := by
  go_enter Try.func33, Try.ntmps33
  go_wp2_with fail
  refine (add base G0 own0 n0 a cap segs p w hI hn hr hrb hbase hws hl hlb).mono ?_
  rintro e w' ⟨rfl, h1, h2⟩
  go_wp2
  refine bodyPost_end (results_none rfl _ _ _) rfl ⟨rfl, h1, h2⟩

end Go.Proofs.Qxb6001154a
