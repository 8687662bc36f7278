import Derived.Test.Qxb6001154aLawKeeps
import Derived.Test.Qxb6001154aEncode
namespace Go.Proofs.Qxb6001154a
open Go.RowKit

set_option maxRecDepth 100000 in
set_option maxHeartbeats 1000000 in
theorem zzBytesKeys (a1 : Option Addr) (l1 c1 : Nat) (a2 : Option Addr) (c2 : Nat) (ss : List ByteArray) (p q : Int) (w : World)
    (hr : RowAt w a2 (ss.map Value.string)) (h1 : l1 ≤ 140737488355328) (h2 : ss.length ≤ 140737488355328)
    (hz : ∀ s ∈ ss, s.size ≤ 140737488355328) :
    Calls Try.prog 29 #[.slice a1 l1 c1, .slice a2 ss.length c2, .int .i64 p, .int .i64 q] w fun e w' => SomeBool e ∧ w = w' := by
  have HR : Hid (RowAt w a2 (ss.map Value.string)) := hr
  have HZ : Hid (∀ s ∈ ss, s.size ≤ 140737488355328) := hz
  clear hr hz
  by_cases b1 : 1048576 < l1
  · go_enter Try.func29, Try.ntmps29
    go_wp2
    go_ret
    exact ⟨⟨_, rfl⟩, rfl⟩
  by_cases b2 : 1048576 < ss.length
  · go_enter Try.func29, Try.ntmps29
    go_wp2
    go_ret
    exact ⟨⟨_, rfl⟩, rfl⟩
  by_cases b3 : 1048576 < l1 + ss.length
  · go_enter Try.func29, Try.ntmps29
    go_wp2
    go_ret
    exact ⟨⟨_, rfl⟩, rfl⟩
  go_enter Try.func29, Try.ntmps29
  go_wp2
  go_loop [9, 10] (fun t i => ∃ k n : Nat, k ≤ ss.length ∧ i = .int .i64 k ∧ t = .int .i64 n ∧ n ≤ 1048576) (fun _ i => ss.length - (intOf i).toNat)
  case atStart => exact ⟨0, l1 + ss.length, Nat.zero_le _, rfl, by go_num, by omega⟩
  case round =>
    obtain ⟨k, n, hk, rfl, rfl, hn⟩ := hrel
    by_cases hlt : k < ss.length
    · obtain ⟨b, off, ha, hcell⟩ := row_str HR.out k hlt
      subst ha
      have hzk := HZ.out ss[k] (List.getElem_mem hlt)
      generalize ss[k] = x at *
      by_cases g1 : 1048576 < x.size
      · go_wp2
        go_ret
        exact ⟨⟨_, rfl⟩, rfl⟩
      by_cases g2 : 1048576 < n + x.size
      · go_wp2
        go_ret
        exact ⟨⟨_, rfl⟩, rfl⟩
      go_wp2
      go_round
      case rel => exact ⟨k + 1, n + x.size, by omega, by go_num, by go_num, by omega⟩
      case measure => simp [intOf]; omega
    · go_wp2
      go_ret
      exact ⟨⟨_, rfl⟩, rfl⟩

/-! ### The rewritten segments -/
def encB (t : ByteArray) : ByteArray := ⟨(Pl.enc t.data.toList).toArray⟩
def re (s : Nat × ByteArray) : Nat × ByteArray := if s.1 = 0 then (s.1, encB (decB s.2)) else s
def mixed (l : List (Nat × ByteArray)) (k : Nat) : List (Nat × ByteArray) := (l.take k).map re ++ l.drop k

theorem mixed_zero (l : List (Nat × ByteArray)) : mixed l 0 = l := by simp [mixed]
theorem mixed_full (l : List (Nat × ByteArray)) (k : Nat) (hk : l.length ≤ k) : mixed l k = l.map re := by
  simp [mixed, List.take_of_length_le hk, List.drop_of_length_le hk]
theorem mixed_length (l : List (Nat × ByteArray)) (k : Nat) : (mixed l k).length = l.length := by
  simp [mixed]; omega
theorem mixed_get (l : List (Nat × ByteArray)) (k : Nat) (hk : k < l.length) (hk' : k < (mixed l k).length) : (mixed l k)[k] = l[k] := by
  simp [mixed, List.getElem_append_right, Nat.min_eq_left (Nat.le_of_lt hk)]
theorem mixed_next (l : List (Nat × ByteArray)) (k : Nat) (hk : k < l.length) : mixed l (k + 1) = (mixed l k).set k (re l[k]) := by
  unfold mixed
  have e : k - ((l.take k).map re).length = 0 := by rw [List.length_map, List.length_take]; omega
  rw [List.set_append_right _ _ (by rw [List.length_map, List.length_take]; omega), e, List.drop_eq_getElem_cons hk, List.take_succ_eq_append_getElem hk, List.map_append, List.set_cons_zero, List.map_cons, List.map_nil, List.append_assoc]
  rfl
theorem mixed_skip (l : List (Nat × ByteArray)) (k : Nat) (hk : k < l.length) (h : l[k].1 ≠ 0) : mixed l (k + 1) = mixed l k := by
  rw [mixed_next l k hk]
  unfold re
  rw [if_neg h, ← mixed_get l k hk (by rw [mixed_length]; exact hk), List.set_getElem_self]

theorem segCells_set : ∀ (l : List (Nat × ByteArray)) (k : Nat) (hk : k < l.length) (t : ByteArray), (segCells l).set (k * 2 + 1) (.string t) = segCells (l.set k (l[k].1, t))
  | [], k, hk, t => by simp at hk
  | s :: r, 0, hk, t => by simp [segCells]
  | s :: r, k + 1, hk, t => by
    have := segCells_set r k (by simpa using hk) t
    have e : (k + 1) * 2 + 1 = (k * 2 + 1) + 1 + 1 := by omega
    rw [e]
    simp only [segCells, List.set_cons_succ, List.getElem_cons_succ, this]

theorem mixed_store (l : List (Nat × ByteArray)) (k : Nat) (hk : k < l.length) (h : l[k].1 = 0) : (segCells (mixed l k)).set (k * 2 + 1) (.string (encB (decB l[k].2))) = segCells (mixed l (k + 1)) := by
  have hk' : k < (mixed l k).length := by rw [mixed_length]; exact hk
  rw [segCells_set _ k hk', mixed_next l k hk, mixed_get l k hk hk']
  unfold re
  rw [if_pos h]

theorem decB_encB (t : ByteArray) : decB (encB t) = t := by
  unfold decB encB
  simp [Pl.dec_enc]

theorem step_re (G : Gr) (b : Nat) (s : Nat × ByteArray) : stepTo G b (re s) = stepTo G b s := by
  unfold re
  split
  · rename_i h
    unfold stepTo
    simp only [decB_encB]
  · rfl
theorem re_fst (s : Nat × ByteArray) : (re s).1 = s.1 := by unfold re; split <;> rfl
theorem path_re (G : Gr) : ∀ (l : List (Nat × ByteArray)) (b : Nat), path G (l.map re) b = path G l b
  | [], b => rfl
  | s :: r, b => by
    rw [List.map_cons, path, path, re_fst, step_re]
    split
    · rfl
    · cases stepTo G b s with
      | none => rfl
      | some c => exact path_re G r c

theorem re_ok {l : List (Nat × ByteArray)} (h : ∀ s ∈ l, s.1 ≤ 2 ∧ s.2.size ≤ 262144 ∧ Pl.wf s.2.data.toList = true) : ∀ s ∈ l.map re, s.1 ≤ 2 ∧ s.2.size ≤ 2097152 ∧ Pl.wf s.2.data.toList = true := by
  intro s hs
  obtain ⟨t, ht, rfl⟩ := List.mem_map.1 hs
  obtain ⟨h1, h2, h3⟩ := h t ht
  refine ⟨by rw [re_fst]; exact h1, ?_⟩
  unfold re
  split
  · have hle := Pl.dec_length_le t.2.data.toList
    have hsz : t.2.data.toList.length = t.2.size := rfl
    refine ⟨?_, ?_⟩
    · show (encB (decB t.2)).size ≤ _
      have e1 : (encB (decB t.2)).size = 3 * (Pl.dec t.2.data.toList).length := by
        show (Pl.enc (decB t.2).data.toList).toArray.size = _
        rw [List.size_toArray, Pl.enc_length]
        rfl
      rw [e1]; omega
    · show Pl.wf (encB (decB t.2)).data.toList = true
      exact Pl.wf_enc _
  · exact ⟨by omega, h3⟩

/-- Two additions on one path: the path's list is both, in order; its sister is empty. -/
theorem keys_plain {w2 : World} {base : Nat} {segs : List (Nat × ByteArray)} {p1 p2 : Int} {G1 : Gr} {e1 : Nat} {d1 : Bool} (hE1 : Ext (G00 base) G1) (hP1 : path G1 segs base = some (e1, d1))
    (hL1 : ∀ b x, lst G1 b x = if b = e1 ∧ x = d1 then lst (G00 base) b x ++ [p1] else lst (G00 base) b x) (h2 : Added base G1 base (segs.map re) p2 w2) :
    ∃ G own r1, Inv w2 base G own ∧ path G segs base = some (e1, d1) ∧ G e1 = some r1 ∧ lstL r1 d1 = [p1, p2] ∧ lstL r1 (!d1) = [] := by
  obtain ⟨G, own, e2, d2, hI, hE, hP2, hL⟩ := h2
  rw [path_re] at hP2
  obtain ⟨rt, hrt, _⟩ := hE1 base emptyNode (by simp [G00])
  obtain ⟨rt2, hrt2, _⟩ := hE base rt hrt
  have hP1' := hE.path _ _ _ hP1
  rw [hP1'] at hP2
  cases hP2
  obtain ⟨r1, hr1⟩ := path_dom hI _ _ _ _ ⟨rt2, hrt2⟩ hP1'
  refine ⟨G, own, r1, hI, hP1', hr1, ?_, ?_⟩
  · rw [← lst_of hr1, hL, if_pos ⟨rfl, rfl⟩, hL1, if_pos ⟨rfl, rfl⟩, lst_G00]; rfl
  · have hn : ¬ (e1 = e1 ∧ (!d1) = d1) := by cases d1 <;> simp
    rw [← lst_of hr1, hL, if_neg hn, hL1, if_neg hn, lst_G00]

theorem list_two {w : World} {base : Nat} {v : Value} {L : List Int} {p q : Int} (h : w.ownsRow base 3 1 v L.length (L.map (Value.int .i64))) (hL : L = [p, q]) : ∃ g cap, v = .slice (some ⟨g, 0, none⟩) 2 cap ∧ w.cell? ⟨g, 0, none⟩ = some (.int .i64 p) ∧ w.cell? ⟨g, 1, none⟩ = some (.int .i64 q) := by
  subst hL
  obtain ⟨g, cap, hv, hc⟩ := owns_list h (by simp)
  exact ⟨g, cap, hv, hc 0 (by simp), hc 1 (by simp)⟩

theorem list_nil {w : World} {base : Nat} {v : Value} {L : List Int} (h : w.ownsRow base 3 1 v L.length (L.map (Value.int .i64))) (hL : L = []) : ∃ a cap, v = .slice a 0 cap := by
  subst hL
  rcases h.2 with ⟨hv, _⟩ | ⟨g, cap, cur, hv, _⟩
  · exact ⟨none, 0, hv⟩
  · exact ⟨_, cap, hv⟩

theorem encodeB (s : ByteArray) (w : World) (hs : s.size ≤ 2097152) :
    Calls Try.prog 12 #[.string s, .bool true] w fun e w' => e = .returned (.string (encB s)) ∧ Below w.heap.size w w' := encode s w hs

theorem decB_size (s : ByteArray) : (decB s).size ≤ s.size := by
  have hle := Pl.dec_length_le s.data.toList
  show (Pl.dec s.data.toList).toArray.size ≤ _
  rw [List.size_toArray]
  exact hle

end Go.Proofs.Qxb6001154a
