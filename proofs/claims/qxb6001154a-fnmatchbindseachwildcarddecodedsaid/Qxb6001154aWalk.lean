import Derived.Test.Qxb6001154aAdd
namespace Go.Proofs.Qxb6001154a
open Go.RowKit

theorem run_lookup_nil (key : ByteArray) (w : World) : (Instr.lookup 71 (.map none) (.string key) false).run Try.prog w = .ok (.pointer none) w := by
  have hf : (Instr.findKey 9 (.string key) []).run Try.prog w = .ok none w := by simp [Instr.findKey, run_underlying Try.underlying9, Instr.findNow]
  simp [Instr.lookup, run_underlying Try.underlying71, run_checkKey_str Try.underlying9, hf, Result.andThen]

set_option maxHeartbeats 400000 in
theorem literalChild {w : World} {base : Nat} {G : Gr} {own : Nat → Nat × Nat} {n : Nat} {r : NodeR} (hI : Inv w base G own) (hn : G n = some r) (key : ByteArray) :
    Calls Try.prog 44 #[.pointer (some ⟨n, 0, none⟩), .string key] w fun e w' => e = .returned (ptrV (kids r key)) ∧ w = w' := by
  have hok := hI n r hn
  obtain ⟨hc, -, -, -⟩ := hok.cell
  cases hl : r.lits with
  | none =>
    have hc' : w.cell? ⟨n, 0, none⟩ = some (.map none) := by rw [hc]; simp [mapV, hl]
    have hk : Hid (kids r key = none) := (by simp [kids, hl] : _ = _)
    have hlk := run_lookup_nil key
    clear hc hok hI hn hl
    go_enter Try.func44, Try.ntmps44
    go_wp2
    go_ret
    exact ⟨ret_val (by rw [hk.out]; rfl), rfl⟩
  | some p =>
    obtain ⟨hm, -, -, -⟩ := hok.map p hl
    have hc' : w.cell? ⟨n, 0, none⟩ = some (.map (some p.1)) := by rw [hc]; simp [mapV, hl]
    have hk : Hid (kids r key = look p.2 key) := (by simp [kids, hl] : _ = _)
    clear hc hok hI hn hl
    go_enter Try.func44, Try.ntmps44
    go_wp2_with (at_lookup; refine wpList_lookup_str _ rfl _ _ 71 rfl 9 57 Try.underlying71 Try.underlying9 _ _ rfl hm _ rfl (.pointer none) zero57 (ptrV (look p.2 key)) (look_ent _ _) ?_)
    go_ret
    exact ⟨ret_val (by rw [hk.out]; rfl), rfl⟩

set_option maxHeartbeats 400000 in
theorem wildcardChild {w : World} {base : Nat} {G : Gr} {own : Nat → Nat × Nat} {n : Nat} {r : NodeR} (hI : Inv w base G own) (hn : G n = some r) :
    Calls Try.prog 45 #[.pointer (some ⟨n, 0, none⟩)] w fun e w' => e = .returned (ptrV r.wild) ∧ w = w' := by
  obtain ⟨-, hc, -, -⟩ := (hI n r hn).cell
  clear hI hn
  go_enter Try.func45, Try.ntmps45
  go_wp2
  go_ret
  exact ⟨rfl, rfl⟩

def lstV (r : NodeR) (d : Bool) : Value := if d then r.dblV else r.endV
def lstL (r : NodeR) (d : Bool) : List Int := if d then r.dblL else r.endL
theorem lst_of {G : Gr} {n : Nat} {r : NodeR} (hn : G n = some r) (d : Bool) : lst G n d = lstL r d := by simp [lst, hn, lstL]
theorem NodeOk.lstR {w : World} {base : Nat} {G : Gr} {own : Nat → Nat × Nat} {b : Nat} {r : NodeR} (h : NodeOk w base G own b r) (d : Bool) : w.ownsRow base 3 1 (lstV r d) (lstL r d).length ((lstL r d).map (Value.int .i64)) := by
  cases d
  · exact h.endR
  · exact h.dblR

set_option maxHeartbeats 400000 in
theorem ended_ {w : World} {n : Nat} {v : Value} (hc : w.cell? ⟨n, 2, none⟩ = some v) : Calls Try.prog 47 #[.pointer (some ⟨n, 0, none⟩)] w fun e w' => e = .returned v ∧ w = w' := by
  go_enter Try.func47, Try.ntmps47
  go_wp2
  go_ret
  exact ⟨rfl, rfl⟩
set_option maxHeartbeats 400000 in
theorem double_ {w : World} {n : Nat} {v : Value} (hc : w.cell? ⟨n, 3, none⟩ = some v) : Calls Try.prog 46 #[.pointer (some ⟨n, 0, none⟩)] w fun e w' => e = .returned v ∧ w = w' := by
  go_enter Try.func46, Try.ntmps46
  go_wp2
  go_ret
  exact ⟨rfl, rfl⟩

set_option maxHeartbeats 400000 in
theorem listAt {w : World} {base : Nat} {G : Gr} {own : Nat → Nat × Nat} {n : Nat} {r : NodeR} (hI : Inv w base G own) (hn : G n = some r) (d : Bool) :
    Calls Try.prog 35 #[.pointer (some ⟨n, 0, none⟩), .bool d] w fun e w' => e = .returned (lstV r d) ∧ w = w' := by
  obtain ⟨-, -, hc2, hc3⟩ := (hI n r hn).cell
  have H2 : Hid _ := hc2
  have H3 : Hid _ := hc3
  clear hI hn hc2 hc3
  cases d
  · go_enter Try.func35, Try.ntmps35
    go_wp2_with (go_at_call 47; refine (ended_ H2.out).mono ?_; rintro e w' ⟨rfl, rfl⟩)
    go_ret
    exact ⟨rfl, rfl⟩
  · go_enter Try.func35, Try.ntmps35
    go_wp2_with (go_at_call 46; refine (double_ H3.out).mono ?_; rintro e w' ⟨rfl, rfl⟩)
    go_ret
    exact ⟨rfl, rfl⟩

set_option maxHeartbeats 400000 in
theorem newNode (w : World) : Calls Try.prog 32 #[] w fun e w' => e = .returned (.pointer (some ⟨w.heap.size, 0, none⟩)) ∧ w.alloc nodeObj = w' := by
  go_enter Try.func32, Try.ntmps32
  go_wp2
  go_ret
  exact ⟨rfl, rfl⟩

theorem step_some {G : Gr} {b c : Nat} {s : Nat × ByteArray} (h : stepTo G b s = some c) : ∃ r, G b = some r ∧ (if s.1 = 0 then kids r (decB s.2) else r.wild) = some c := by
  unfold stepTo at h
  cases hb : G b with
  | none => rw [hb] at h; cases h
  | some r => rw [hb] at h; exact ⟨r, rfl, h⟩

theorem decodeB (s : ByteArray) (w : World) (hs : s.size ≤ 2097152) (hw : Pl.wf s.data.toList = true) :
    Calls Try.prog 23 #[.string s, .bool false] w fun e w' => e = .returned (.string (decB s)) ∧ Below w.heap.size w w' := decode s w hs hw

set_option maxRecDepth 100000 in
set_option maxHeartbeats 1000000 in
theorem walk (base : Nat) (G : Gr) (own : Nat → Nat × Nat) (n0 : Nat) (a : Option Addr) (cap : Nat) (segs : List (Nat × ByteArray)) (w : World) (hI : Inv w base G own) (hr : RowAt w a (segCells segs))
    (hws : ∀ s ∈ segs, s.1 ≤ 2 ∧ s.2.size ≤ 2097152 ∧ Pl.wf s.2.data.toList = true) (hl : segs.length ≤ 65536) (ee : Nat) (d : Bool) (hp : path G segs n0 = some (ee, d)) :
    Calls Try.prog 34 #[.pointer (some ⟨n0, 0, none⟩), .slice a segs.length cap] w fun e w' => e = .returned (.tuple #[.pointer (some ⟨ee, 0, none⟩), .bool d]) ∧ Below w.heap.size w w' := by
  have HR : Hid (RowAt w a (segCells segs)) := hr
  have HW : Hid (∀ s ∈ segs, s.1 ≤ 2 ∧ s.2.size ≤ 2097152 ∧ Pl.wf s.2.data.toList = true) := hws
  have HI : Hid (Inv w base G own) := hI
  have HP : Hid (path G (segs.drop 0) n0 = some (ee, d)) := hp
  clear hr hws hI hp
  go_enter Try.func34, Try.ntmps34
  go_wp2_with fail
  go_loopw [6, 7] (fun nv i wr => ∃ (k n : Nat), k ≤ segs.length ∧ i = .int .i64 k ∧ nv = .pointer (some ⟨n, 0, none⟩) ∧ Hid (path G (segs.drop k) n = some (ee, d)) ∧ Below w.heap.size w wr) (fun _ i _ => segs.length - (intOf i).toNat)
  case atStart => exact ⟨0, n0, Nat.zero_le _, rfl, rfl, HP.out, Below.refl _ _⟩
  case round =>
    clear HP
    obtain ⟨k, n, hk, rfl, rfl, hrel, hbel⟩ := hrel
    by_cases hlt : k < segs.length
    · obtain ⟨hs1, hs2⟩ := seg_at segs k hlt
      obtain ⟨b, off, ha, hc1⟩ := HR.out _ _ hs1
      subst ha
      obtain ⟨b', off', ha', hc2⟩ := HR.out _ _ hs2
      cases ha'
      have hbb := cell_lt hc1
      have hcell1 : wr.cell? ⟨b, off + k * 2, none⟩ = some (.int .i64 ((segs[k]).1 : Int)) := (hbel.cell hbb).trans hc1
      have hcell2 : wr.cell? ⟨b, off + k * 2 + 1, none⟩ = some (.string (segs[k]).2) := (hbel.cell (p := ⟨b, off + k * 2 + 1, none⟩) hbb).trans hc2
      obtain ⟨hk2, hsz, hwf⟩ := HW.out segs[k] (List.getElem_mem hlt)
      have hdr : path G (segs[k] :: segs.drop (k + 1)) n = some (ee, d) := by rw [← List.drop_eq_getElem_cons hlt]; exact hrel.out
      clear hs1 hs2 hc1 hc2 hrel
      generalize segs[k] = sg at *
      obtain ⟨kd, tx⟩ := sg
      dsimp only at *
      have HIr : Hid (Inv wr base G own) := HI.out.below hbel
      obtain rfl | rfl | rfl : kd = 0 ∨ kd = 1 ∨ kd = 2 := by omega
      · cases hst : stepTo G n (0, tx) with
        | none => rw [path, if_neg (by simp), hst] at hdr; cases hdr
        | some c =>
          have HD : Hid (path G (segs.drop (k + 1)) c = some (ee, d)) := by rw [path_cons_some _ _ _ _ _ (by simp) hst] at hdr; exact hdr
          obtain ⟨r, hnr, hkid⟩ := step_some hst
          have HN : Hid (G n = some r) := hnr
          have HKD : Hid (kids r (decB tx) = some c) := hkid
          clear hdr hst hnr hkid
          go_wp2_with fail
          refine (decodeB tx _ hsz hwf).mono ?_
          rintro e w1 ⟨rfl, hb1⟩
          go_wp2_with fail
          refine (literalChild (HIr.out.below hb1) HN.out _).mono ?_
          rintro e w2 ⟨rfl, rfl⟩
          rw [HKD.out]
          simp only [ptrV]
          go_wp2
          go_roundw
          case rel => first | exact ⟨k + 1, c, by omega, by go_num, rfl, HD.out, hbel.trans (hb1.mono hbel.size)⟩ | ((repeat apply Exists.intro); exact ⟨⟨k + 1, c, by omega, by go_num, rfl, HD.out, hbel.trans (hb1.mono hbel.size)⟩, rfl⟩)
          case measure => simp [intOf]; omega
      · cases hst : stepTo G n (1, tx) with
        | none => rw [path, if_neg (by simp), hst] at hdr; cases hdr
        | some c =>
          have HD : Hid (path G (segs.drop (k + 1)) c = some (ee, d)) := by rw [path_cons_some _ _ _ _ _ (by simp) hst] at hdr; exact hdr
          obtain ⟨r, hnr, hkid⟩ := step_some hst
          have HN : Hid (G n = some r) := hnr
          have HKD : Hid (r.wild = some c) := hkid
          clear hdr hst hnr hkid
          go_wp2_with fail
          refine (wildcardChild HIr.out HN.out).mono ?_
          rintro e w2 ⟨rfl, rfl⟩
          rw [HKD.out]
          simp only [ptrV]
          go_wp2
          go_roundw
          case rel => first | exact ⟨k + 1, c, by omega, by go_num, rfl, HD.out, hbel⟩ | ((repeat apply Exists.intro); exact ⟨⟨k + 1, c, by omega, by go_num, rfl, HD.out, hbel⟩, rfl⟩)
          case measure => simp [intOf]; omega
      · rw [path_cons_dbl _ _ _ _ rfl] at hdr
        obtain ⟨rfl, rfl⟩ : n = ee ∧ true = d := by simpa using hdr
        clear hdr
        go_wp2
        go_ret2
        exact ⟨rfl, hbel⟩
    · have hdr := hrel.out
      rw [List.drop_eq_nil_of_le (by omega), path] at hdr
      obtain ⟨rfl, rfl⟩ : n = ee ∧ false = d := by simpa using hdr
      clear hdr
      go_wp2
      go_ret2
      exact ⟨rfl, hbel⟩

end Go.Proofs.Qxb6001154a
