import Derived.Test.Qxb6001154aKeys
namespace Go.Proofs.Qxb6001154a
open Go.RowKit

theorem segs_sz {N : Nat} (ks : List Int) (ts : List ByteArray) (hz : ∀ s ∈ ts, s.size ≤ N) : ∀ s ∈ segsOf ks ts, s.2.size ≤ N := by
  intro s hs
  unfold segsOf at hs
  obtain ⟨i, hi, rfl⟩ := List.mem_mapIdx.1 hs
  simp only [seg]
  split
  · cases hx : ts[i]? with
    | none => simp
    | some t => exact hz t (List.mem_of_getElem? hx)
  · simp

/-- What an owned row keeps when another block is written or the heap grows. -/
theorem owns_below {w w' : World} {base : Nat} {e : TypeId} {size : Nat} {v : Value} {n : Nat} {xs : List Value} (h : w.ownsRow base e size v n xs) (hb : Below w.heap.size w w') : w'.ownsRow base e size v n xs :=
  ownsRow_same h (fun g hg => hb.block g (ownsRow_lt h g hg))

theorem owns_form' {w : World} {base : Nat} {e : TypeId} {size : Nat} {v : Value} {n : Nat} {xs : List Value} (h : w.ownsRow base e size v n xs) (hn : 0 < n) : ∃ g cap, v = .slice (some ⟨g, 0, none⟩) n cap := by
  rcases h.2 with ⟨_, h0⟩ | ⟨g, cap, cur, hv, _⟩
  · omega
  · exact ⟨g, cap, hv⟩

set_option maxRecDepth 100000 in
set_option maxHeartbeats 2000000 in
theorem keys (a1 : Option Addr) (c1 : Nat) (ks : List Int) (a2 : Option Addr) (c2 : Nat) (ts : List ByteArray) (p1 p2 : Int) (w : World)
    (hr1 : RowAt w a1 (ks.map (Value.int .u8))) (hr2 : RowAt w a2 (ts.map Value.string))
    (hk1 : ∀ k ∈ ks, 0 ≤ k ∧ k ≤ 255)
    (h1 : ks.length ≤ 140737488355328) (h2 : ts.length ≤ 140737488355328)
    (hz1 : ∀ s ∈ ts, s.size ≤ 140737488355328) :
    Calls Try.prog 9 #[.slice a1 ks.length c1, .slice a2 ts.length c2, .int .i64 p1, .int .i64 p2] w fun e w' => e = .returned (.bool true) ∧ Below w.heap.size w w' := by
  have R1 : Hid (RowAt w a1 (ks.map (Value.int .u8))) := hr1
  have R2 : Hid (RowAt w a2 (ts.map Value.string)) := hr2
  have K1 : Hid _ := hk1
  have Z1 : Hid _ := hz1
  clear hr1 hr2 hk1 hz1
  go_enter Try.func9, Try.ntmps9
  go_wp2_with fail
  refine (zzBytesKeys _ _ _ _ _ ts _ _ _ R2.out h1 h2 Z1.out).mono ?_
  rintro e w' ⟨⟨b, rfl⟩, rfl⟩
  cases b
  · go_wp2
    go_ret
    exact ⟨rfl, Below.refl _ _⟩
  by_cases hL : ks.length ≤ 65536 ∧ ts.length ≤ 65536
  case neg =>
    go_wp2_with fail
    all_goals go_ret
    all_goals exact ⟨rfl, Below.refl _ _⟩
  obtain ⟨l1, l2⟩ := hL
  clear h1 h2
  go_wp2_with fail
  refine (sumLen _ _ ts _ R2.out l2 Z1.out).mono ?_
  rintro e w' ⟨⟨n1, rfl, hn1, hs1⟩, hw'⟩
  have hw'' := hw'.symm
  clear hw'
  subst hw''
  have S1 : Hid _ := hs1
  clear hs1
  by_cases hsum : ks.length + n1 ≤ 262144
  case neg =>
    go_wp2_with fail
    all_goals go_ret
    all_goals exact ⟨rfl, Below.refl _ _⟩
  have z1 := S1.out (by omega)
  have hz0 : ∀ s ∈ ts, s.size ≤ 262144 := fun s hs => by have := sumSz_mem hs; omega
  have Y0 : Hid _ := segs_sz ks ts hz0
  have Y1 : Hid (∀ s ∈ ts, s.size ≤ 2097152) := fun s hs => by have := hz0 s hs; omega
  clear hz0 z1 S1 Z1
  go_wp2_with fail
  refine (allWellFormed _ _ ts _ R2.out (by omega) Y1.out).mono ?_
  rintro e w' ⟨rfl, hw'⟩
  have hw'' := hw'.symm
  clear hw'
  subst hw''
  cases hb1 : allWf ts
  · go_wp2_with fail
    all_goals go_ret
    all_goals exact ⟨rfl, Below.refl _ _⟩
  have B1 : Hid _ := hb1
  clear hb1 hsum hn1
  have P1 : Hid _ := segs_ok ks ts K1.out Y1.out B1.out
  have P0 : Hid (∀ s ∈ segsOf ks ts, s.1 ≤ 2 ∧ s.2.size ≤ 262144 ∧ Pl.wf s.2.data.toList = true) := fun s hs => ⟨(P1.out s hs).1, Y0.out s hs, (P1.out s hs).2.2⟩
  clear Y0
  go_wp2_with fail
  refine (cloneKinds _ _ ks _ R1.out l1).mono ?_
  rintro e w1 ⟨⟨a1', c1', rfl, r1⟩, b1⟩
  have Q1 : Hid (RowAt w1 a1' (ks.map (Value.int .u8))) := r1
  clear r1
  go_wp2_with fail
  refine (cloneStrings _ _ ts _ (R2.out.below b1) l2).mono ?_
  rintro e w2 ⟨⟨a2', c2', rfl, r2⟩, b2⟩
  have Q2 : Hid (RowAt w2 a2' (ts.map Value.string)) := r2
  have BB2 := b1.trans (b2.mono b1.size)
  clear r2
  go_wp2_with fail
  refine (segmentsOf _ _ ks _ _ ts _ (Q1.out.below b2) Q2.out l1 l2 K1.out).mono ?_
  rintro e w5 ⟨v1, rfl, o1, b5⟩
  obtain ⟨s1, sc1, rfl, q1, u1⟩ := owns_segs o1
  have BB5 := BB2.trans (b5.mono BB2.size)
  clear o1
  have T1 : Hid (RowAt w5 s1 (segCells (segsOf ks ts))) := q1
  have U1 : Hid (∀ b off, s1 = some (⟨b, off, none⟩ : Addr) → b < w5.heap.size) := u1
  clear q1 u1
  go_wp2_with fail
  refine (segmentsOf _ _ ks _ _ ts _ ((Q1.out.below b2).below b5) (Q2.out.below b5) l1 l2 K1.out).mono ?_
  rintro e w6 ⟨v2, rfl, o2, b6⟩
  obtain ⟨s2, sc2, rfl, -, -⟩ := owns_segs o2
  have szW5 := b6.size
  have O2 : Hid (w6.ownsRow w5.heap.size 34 2 (.slice s2 ks.length sc2) ks.length (segCells (mixed (segsOf ks ts) 0))) := by rw [mixed_zero]; exact o2
  have E1 : Hid ((segsOf ks ts).length = ks.length) := segsOf_length ks ts
  have bw5 : w.heap.size ≤ w5.heap.size := BB5.size
  clear o2 Q1 Q2 b1 b2 b5 BB2 R1 R2 K1 Y1 B1
  go_wp2_with fail
  go_loopw [11] (fun i wr => ∃ k : Nat, k ≤ ks.length ∧ i = .int .i64 k ∧ wr.ownsRow w5.heap.size 34 2 (.slice s2 ks.length sc2) ks.length (segCells (mixed (segsOf ks ts) k)) ∧ Below w5.heap.size w5 wr) (fun i _ => ks.length - (intOf i).toNat)
  case atStart => exact ⟨0, Nat.zero_le _, rfl, O2.out, b6⟩
  case round =>
    clear O2
    obtain ⟨k, hk, rfl, hown, hbel⟩ := hrel
    by_cases hlt : k < ks.length
    · have hkl : k < (segsOf ks ts).length := by rw [E1.out]; exact hlt
      have hkm : k < (mixed (segsOf ks ts) k).length := by rw [mixed_length]; exact hkl
      obtain ⟨g, gc, hv⟩ := owns_form' hown (by omega)
      simp only [Value.slice.injEq, true_and] at hv
      obtain ⟨rfl, rfl⟩ := hv
      obtain ⟨hs1, hs2⟩ := seg_at (mixed (segsOf ks ts) k) k hkm
      rw [mixed_get _ k hkl hkm] at hs1 hs2
      have hcell1 : wr.cell? ⟨g, k * 2, none⟩ = some (.int .i64 (((segsOf ks ts)[k]).1 : Int)) := (hown.cellAt (k * 2) (by omega)).trans hs1
      have hcell2 : wr.cell? ⟨g, k * 2 + 1, none⟩ = some (.string ((segsOf ks ts)[k]).2) := (hown.cellAt (k * 2 + 1) (by omega)).trans hs2
      obtain ⟨hk2, hsz, hwf⟩ := P1.out (segsOf ks ts)[k] (List.getElem_mem hkl)
      have HSt : Hid (_ → _ = _) := mixed_store (segsOf ks ts) k hkl
      have HSk : Hid (_ → _ = _) := mixed_skip (segsOf ks ts) k hkl
      clear hs1 hs2
      generalize (segsOf ks ts)[k] = sg at *
      obtain ⟨kd, tx⟩ := sg
      dsimp only at *
      by_cases hkd : kd = 0
      · subst hkd
        have HO : Hid (_ = _) := HSt.out rfl
        go_wp2_with fail
        refine (decodeB tx _ hsz hwf).mono ?_
        rintro e w1 ⟨rfl, hb1⟩
        have hown1 := owns_below hown hb1
        go_wp2_with fail
        refine (encodeB (decB tx) _ (Nat.le_trans (decB_size tx) hsz)).mono ?_
        rintro e w2 ⟨rfl, hb2⟩
        have hown2 := owns_below hown1 hb2
        have hfz := hown2.frozenAt (k * 2 + 1)
        have hst := (hown2.stored (k * 2 + 1) (.string (encB (decB tx)))).1
        have hgB : w5.heap.size ≤ g := owns_block hown g rfl
        have hglt : g < w2.heap.size := ownsRow_lt hown2 g rfl
        have hbb : Below w5.heap.size w5 w2 := (hbel.trans (hb1.mono hbel.size)).trans (hb2.mono (Nat.le_trans hbel.size hb1.size))
        have hcell3 : w2.cell? ⟨g, k * 2 + 1, none⟩ = some (.string tx) := (hb2.cell (p := ⟨g, k * 2 + 1, none⟩) (Nat.lt_of_lt_of_le (ownsRow_lt hown g rfl) hb1.size)).trans ((hb1.cell (p := ⟨g, k * 2 + 1, none⟩) (ownsRow_lt hown g rfl)).trans hcell2)
        rw [HO.out] at hst
        have HB : Hid (Below w5.heap.size w5 (w2.setCell ⟨g, k * 2 + 1, none⟩ (.string (encB (decB tx))))) := hbb.setCell hgB _
        have HN : Hid ((w2.setCell ⟨g, k * 2 + 1, none⟩ (.string (encB (decB tx)))).ownsRow w5.heap.size 34 2 (.slice (some ⟨g, 0, none⟩) ks.length sc2) ks.length (segCells (mixed (segsOf ks ts) (k + 1)))) := hst
        clear hst hown hown1 hown2 hbel hbb hcell1 hcell2 HO HSt HSk hb1 hb2
        go_wp2_with fail
        go_roundw
        case rel => first | exact ⟨k + 1, by omega, by go_num, HN.out, HB.out⟩ | ((repeat apply Exists.intro); exact ⟨⟨k + 1, by omega, by go_num, HN.out, HB.out⟩, rfl⟩)
        case measure => simp [intOf]; omega
      · have HO : Hid (_ = _) := HSk.out hkd
        have hnz : ((kd : Int) == 0) = false := by simp; omega
        go_wp2_with fail
        go_roundw
        case rel => first | exact ⟨k + 1, by omega, by go_num, by rw [HO.out]; exact hown, hbel⟩ | ((repeat apply Exists.intro); exact ⟨⟨k + 1, by omega, by go_num, by rw [HO.out]; exact hown, hbel⟩, rfl⟩)
        case measure => simp [intOf]; omega
    · have HE : Hid (mixed (segsOf ks ts) k = (segsOf ks ts).map re) := mixed_full _ _ (by rw [E1.out]; omega)
      obtain ⟨s2', sc2', hv2, q2, u2⟩ := owns_segs hown
      simp only [Value.slice.injEq, true_and] at hv2
      obtain ⟨rfl, rfl⟩ := hv2
      rw [HE.out] at q2
      have T2 : Hid (RowAt wr s2 (segCells ((segsOf ks ts).map re))) := q2
      have U2 : Hid (∀ b off, s2 = some (⟨b, off, none⟩ : Addr) → b < wr.heap.size) := u2
      have T1' : Hid (RowAt wr s1 (segCells (segsOf ks ts))) := T1.out.below hbel
      have U1' : Hid (∀ b off, s1 = some (⟨b, off, none⟩ : Addr) → b < wr.heap.size) := fun b off h => Nat.lt_of_lt_of_le (U1.out b off h) hbel.size
      have P2 : Hid _ := re_ok P0.out
      have E2 : Hid (((segsOf ks ts).map re).length = ks.length) := by rw [List.length_map]; exact E1.out
      have BB6 : Below w.heap.size w wr := BB5.trans (hbel.mono bw5)
      clear q2 u2 HE hown P0 T1 U1 b6 BB5 hbel szW5 bw5
      go_wp2_with fail
      refine (newNode _).mono ?_
      rintro e w7 ⟨rfl, rfl⟩
      generalize hbs : wr.heap.size = base at *
      have IB : Hid (Inv (wr.alloc nodeObj) base (G00 base) (fun b => (b, 0))) := by rw [← hbs]; exact inv_G00 wr
      have bA : Below base wr (wr.alloc nodeObj) := (Below.refl _ _).alloc (by omega) _
      have szA : base ≤ (wr.alloc nodeObj).heap.size := by simp; omega
      have BBA : Below w.heap.size w (wr.alloc nodeObj) := BB6.alloc (by have := BB6.size; omega) _
      have T1A : Hid (RowAt (wr.alloc nodeObj) s1 (segCells (segsOf ks ts))) := T1'.out.belowB bA U1'.out
      have T2A : Hid (RowAt (wr.alloc nodeObj) s2 (segCells ((segsOf ks ts).map re))) := T2.out.belowB bA U2.out
      have hbw : w.heap.size ≤ base := by have := BB6.size; omega
      clear hbs bA T1' T2 BB6
      generalize wr.alloc nodeObj = w7 at *
      go_wp2_with fail
      refine (zzAdd' base (G00 base) _ base s1 sc1 _ _ E1.out p1 w7 IB.out ⟨emptyNode, by simp [G00]⟩ T1A.out U1'.out szA P1.out l1 (fun b d => by rw [lst_G00]; simp)).mono ?_
      rintro e w8 ⟨rfl, ⟨G1, own1, ee1, d1, I1, X1, H1, L1⟩, b8⟩
      have I1 : Hid _ := I1
      have X1 : Hid _ := X1
      have H1 : Hid _ := H1
      have L1 : Hid (∀ b x, lst G1 b x = if b = ee1 ∧ x = d1 then lst (G00 base) b x ++ [p1] else lst (G00 base) b x) := L1
      have szB : base ≤ w8.heap.size := Nat.le_trans szA b8.size
      have BBB : Below w.heap.size w w8 := BBA.trans (b8.mono hbw)
      have T1B : Hid (RowAt w8 s1 (segCells (segsOf ks ts))) := T1A.out.belowB b8 U1'.out
      have T2B : Hid (RowAt w8 s2 (segCells ((segsOf ks ts).map re))) := T2A.out.belowB b8 U2.out
      clear T1A T2A b8 BBA IB
      go_wp2_with fail
      refine (zzAdd' base G1 own1 base s2 sc2 _ _ E2.out p2 w8 I1.out (by obtain ⟨r, hr, _⟩ := X1.out base emptyNode (by simp [G00]); exact ⟨r, hr⟩) T2B.out U2.out szB P2.out l1 (added_short L1.out)).mono ?_
      rintro e w9 ⟨rfl, hA, b9⟩
      obtain ⟨G, own, r1, I, H1', g1, M1, M2⟩ := keys_plain X1.out H1.out L1.out hA
      have I : Hid (Inv w9 base G own) := I
      have H1' : Hid _ := H1'
      have g1 : Hid (G ee1 = some r1) := g1
      have M1 : Hid (lstL r1 d1 = [p1, p2]) := M1
      have M2 : Hid (lstL r1 (!d1) = []) := M2
      have BBC : Below w.heap.size w w9 := BBB.trans (b9.mono hbw)
      have T1C : Hid (RowAt w9 s1 (segCells (segsOf ks ts))) := T1B.out.belowB b9 U1'.out
      clear T1B T2B b9 BBB I1 X1 H1 L1 hA
      go_wp2_with fail
      refine (walk' base G own base s1 sc1 _ _ E1.out w9 I.out T1C.out P1.out l1 ee1 d1 H1'.out).mono ?_
      rintro e w10 ⟨rfl, b10⟩
      go_wp2_with fail
      refine (listAt (I.out.below b10) g1.out d1).mono ?_
      rintro e w11 ⟨rfl, rfl⟩
      obtain ⟨g, gc, hv1, hcp, hcq⟩ := list_two ((I.out.below b10 ee1 r1 g1.out).lstR d1) M1.out
      rw [hv1]
      clear hv1
      go_wp2_with fail
      refine (listAt (I.out.below b10) g1.out (!d1)).mono ?_
      rintro e w11 ⟨rfl, rfl⟩
      obtain ⟨g', gc', hv2⟩ := list_nil ((I.out.below b10 ee1 r1 g1.out).lstR (!d1)) M2.out
      rw [hv2]
      clear hv2
      go_wp2_with fail
      go_ret
      exact ⟨rfl, BBC.trans (b10.mono BBC.size)⟩

end Go.Proofs.Qxb6001154a
