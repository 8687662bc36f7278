import Derived.Test.Qxb6001154aBytes
namespace Go.Proofs.Qxb6001154a
open Go.RowKit

theorem segs_ok (ks : List Int) (ts : List ByteArray) (hk : ∀ k ∈ ks, 0 ≤ k ∧ k ≤ 255) (hz : ∀ s ∈ ts, s.size ≤ 2097152) (hw : allWf ts = true) : ∀ s ∈ segsOf ks ts, s.1 ≤ 2 ∧ s.2.size ≤ 2097152 ∧ Pl.wf s.2.data.toList = true := by
  intro s hs
  unfold segsOf at hs
  obtain ⟨i, hi, rfl⟩ := List.mem_mapIdx.1 hs
  have h1 := hk ks[i] (List.getElem_mem hi)
  refine ⟨by simp only [seg]; omega, ?_⟩
  simp only [seg]
  split
  · cases hx : ts[i]? with
    | none => exact ⟨by simp, Pl.wf_nil⟩
    | some t =>
      have hm := List.mem_of_getElem? hx
      exact ⟨hz t hm, by unfold allWf at hw; exact List.all_eq_true.1 hw t hm⟩
  · exact ⟨by simp, Pl.wf_nil⟩

/-- What an owned row of segments is good for. -/
theorem owns_segs {w : World} {base : Nat} {v : Value} {n : Nat} {xs : List Value} (h : w.ownsRow base 34 2 v n xs) : ∃ a cap, v = .slice a n cap ∧ RowAt w a xs ∧ ∀ b off, a = some ⟨b, off, none⟩ → b < w.heap.size := by
  rcases h.2 with ⟨rfl, rfl⟩ | ⟨g, cap, cur, rfl, hb, hg, hnc, hcm, hcs, htake⟩
  · refine ⟨none, 0, rfl, ?_, fun b off e => by cases e⟩
    intro k x hx
    have := h.1
    have : xs = [] := List.eq_nil_of_length_eq_zero (by omega)
    subst this
    simp at hx
  · refine ⟨_, cap, rfl, ?_, fun b off e => by cases e; exact heap_lt hg⟩
    intro k x hx
    refine ⟨g, 0, rfl, ?_⟩
    have hk : k < n * 2 := by
      have := h.1
      rcases Nat.lt_or_ge k xs.length with h1 | h1
      · omega
      · rw [List.getElem?_eq_none h1] at hx; cases hx
    rw [Nat.zero_add, h.cellAt k hk]
    exact hx

theorem owns_list {w : World} {base : Nat} {v : Value} {L : List Int} (h : w.ownsRow base 3 1 v L.length (L.map (Value.int .i64))) (hne : 0 < L.length) : ∃ g cap, v = .slice (some ⟨g, 0, none⟩) L.length cap ∧ ∀ j (hj : j < L.length), w.cell? ⟨g, j, none⟩ = some (.int .i64 L[j]) := by
  rcases h.2 with ⟨_, h0⟩ | ⟨g, cap, cur, rfl, hb, hg, hnc, hcm, hcs, htake⟩
  · omega
  · exact ⟨g, cap, rfl, fun j hj => by rw [h.cellAt j (by omega)]; simp [List.getElem?_eq_getElem hj]⟩

def G00 (b : Nat) : Gr := fun x => if x = b then some emptyNode else none
theorem lst_G00 (b : Nat) : ∀ x d, lst (G00 b) x d = [] := by
  intro x d
  unfold lst G00
  by_cases h : x = b
  · rw [if_pos h]; cases d <;> rfl
  · rw [if_neg h]
theorem inv_G00 (w : World) : Inv (w.alloc nodeObj) w.heap.size (G00 w.heap.size) (fun b => (b, 0)) := by
  intro b r hb
  unfold G00 at hb
  split at hb
  · rename_i h
    subst h
    cases hb
    exact nodeOk_empty (Nat.le_refl _) (heap_alloc_new w _) rfl
  · cases hb

theorem look_mem {c : Nat} (key : ByteArray) : ∀ (es : List (ByteArray × Nat)), look es key = some c → ∃ q ∈ es, q.2 = c
  | [], h => by cases h
  | q :: es, h => by
    unfold look at h
    split at h
    · cases h; exact ⟨q, by simp, rfl⟩
    · obtain ⟨q', hq', e⟩ := look_mem key es h; exact ⟨q', by simp [hq'], e⟩

theorem step_dom {G : Gr} {w : World} {base : Nat} {own : Nat → Nat × Nat} {b c : Nat} {s : Nat × ByteArray} (hI : Inv w base G own) (hs : stepTo G b s = some c) : ∃ r, G c = some r := by
  obtain ⟨r, hr, hk⟩ := step_some hs
  split at hk
  · unfold kids at hk
    split at hk
    · cases hk
    · rename_i p hl
      obtain ⟨q, hq, rfl⟩ := look_mem _ _ hk
      exact ((hI b r hr).map p hl).2.2.2 q hq
  · exact (hI b r hr).wild c hk

theorem path_dom {G : Gr} {w : World} {base : Nat} {own : Nat → Nat × Nat} (hI : Inv w base G own) : ∀ (l : List (Nat × ByteArray)) (b : Nat) (e : Nat) (d : Bool), (∃ r, G b = some r) → path G l b = some (e, d) → ∃ r, G e = some r
  | [], b, e, d, hb, h => by rw [path] at h; cases h; exact hb
  | s :: r, b, e, d, hb, h => by
    rw [path] at h
    split at h
    · cases h; exact hb
    · cases hs : stepTo G b s with
      | none => rw [hs] at h; cases h
      | some c =>
        rw [hs] at h
        exact path_dom hI r c e d (step_dom hI hs) h

/-- What two additions leave, for the walks behind them. -/
theorem keeps_plain {w2 : World} {base : Nat} {segs1 segs2 : List (Nat × ByteArray)} {p1 p2 : Int} {G1 : Gr} {e1 : Nat} {d1 : Bool} (hE1 : Ext (G00 base) G1) (hP1 : path G1 segs1 base = some (e1, d1))
    (hL1 : ∀ b x, lst G1 b x = if b = e1 ∧ x = d1 then lst (G00 base) b x ++ [p1] else lst (G00 base) b x) (h2 : Added base G1 base segs2 p2 w2) :
    ∃ G own e2 d2 r1 r2, Inv w2 base G own ∧ path G segs1 base = some (e1, d1) ∧ path G segs2 base = some (e2, d2) ∧ G e1 = some r1 ∧ G e2 = some r2 ∧ (∃ t, lstL r1 d1 = p1 :: t) ∧ (∃ t, lstL r2 d2 = t ++ [p2]) := by
  obtain ⟨G, own, e2, d2, hI, hE, hP2, hL⟩ := h2
  obtain ⟨rt, hrt, _⟩ := hE1 base emptyNode (by simp [G00])
  obtain ⟨rt2, hrt2, _⟩ := hE base rt hrt
  have hP1' := hE.path _ _ _ hP1
  obtain ⟨r1, hr1⟩ := path_dom hI _ _ _ _ ⟨rt2, hrt2⟩ hP1'
  obtain ⟨r2, hr2⟩ := path_dom hI _ _ _ _ ⟨rt2, hrt2⟩ hP2
  have hl1 : lst G1 e1 d1 = [p1] := by rw [hL1, if_pos ⟨rfl, rfl⟩, lst_G00]; rfl
  refine ⟨G, own, e2, d2, r1, r2, hI, hP1', hP2, hr1, hr2, ?_, ?_⟩
  · rw [← lst_of hr1, hL, hl1]
    split
    · exact ⟨[p2], rfl⟩
    · exact ⟨[], rfl⟩
  · rw [← lst_of hr2, hL, if_pos ⟨rfl, rfl⟩]
    exact ⟨_, rfl⟩

theorem added_short {base : Nat} {G1 : Gr} {e1 : Nat} {d1 : Bool} {p1 : Int} (hL1 : ∀ b x, lst G1 b x = if b = e1 ∧ x = d1 then lst (G00 base) b x ++ [p1] else lst (G00 base) b x) : ∀ b d, (lst G1 b d).length ≤ 65536 := by
  intro b d
  rw [hL1, lst_G00]
  split <;> simp

end Go.Proofs.Qxb6001154a
