import Derived.Test.Qxb6001154aKeeps
namespace Go.Proofs.Qxb6001154a
open Go.RowKit

theorem RowAt.belowB {w w' : World} {a : Option Addr} {xs : List Value} {B : Nat} (h : RowAt w a xs) (hb : Below B w w') (hB : ∀ b off, a = some ⟨b, off, none⟩ → b < B) : RowAt w' a xs := by
  intro k x hx
  obtain ⟨b, off, ha, hc⟩ := h k x hx
  exact ⟨b, off, ha, by rw [hb.cell (p := ⟨b, off + k, none⟩) (hB b off ha)]; exact hc⟩

theorem list_first {w : World} {base : Nat} {v : Value} {L t : List Int} {p : Int} (h : w.ownsRow base 3 1 v L.length (L.map (Value.int .i64))) (hL : L = p :: t) : ∃ g n cap, v = .slice (some ⟨g, 0, none⟩) n cap ∧ 0 < n ∧ w.cell? ⟨g, 0, none⟩ = some (.int .i64 p) := by
  subst hL
  obtain ⟨g, cap, hv, hc⟩ := owns_list h (by simp)
  exact ⟨g, _, cap, hv, by simp, hc 0 (by simp)⟩

theorem list_last {w : World} {base : Nat} {v : Value} {L t : List Int} {p : Int} (h : w.ownsRow base 3 1 v L.length (L.map (Value.int .i64))) (hL : L = t ++ [p]) : ∃ g n cap, v = .slice (some ⟨g, 0, none⟩) (n + 1) cap ∧ n < 9223372036854775807 ∧ w.cell? ⟨g, n, none⟩ = some (.int .i64 p) := by
  subst hL
  obtain ⟨g, cap, hv, hc⟩ := owns_list h (by simp)
  refine ⟨g, t.length, cap, ?_, ?_, ?_⟩
  · rw [hv]; simp
  · rcases h.2 with ⟨_, h0⟩ | ⟨g', cap', cur, hv', hb, hg, hnc, hcm, _⟩
    · simp at h0
    · unfold maxLen at hcm; simp at hnc; omega
  · rw [hc t.length (by simp)]; simp

theorem zzAdd' (base : Nat) (G0 : Gr) (own0 : Nat → Nat × Nat) (n0 : Nat) (a : Option Addr) (cap : Nat) (segs : List (Nat × ByteArray)) (n : Nat) (hnl : segs.length = n) (p : Int) (w : World) (hI : Inv w base G0 own0) (hn : ∃ r, G0 n0 = some r) (hr : RowAt w a (segCells segs))
    (hrb : ∀ b off, a = some ⟨b, off, none⟩ → b < base) (hbase : base ≤ w.heap.size) (hws : ∀ s ∈ segs, s.1 ≤ 2 ∧ s.2.size ≤ 2097152 ∧ Pl.wf s.2.data.toList = true) (hl : n ≤ 65536) (hlb : ∀ b d, (lst G0 b d).length ≤ 65536) :
    Calls Try.prog 33 #[.pointer (some ⟨n0, 0, none⟩), .slice a n cap, .int .i64 p] w fun e w' => e = .returned (.tuple #[]) ∧ Added base G0 n0 segs p w' ∧ Below base w w' := by
  subst hnl; exact zzAdd base G0 own0 n0 a cap segs p w hI hn hr hrb hbase hws hl hlb

theorem walk' (base : Nat) (G : Gr) (own : Nat → Nat × Nat) (n0 : Nat) (a : Option Addr) (cap : Nat) (segs : List (Nat × ByteArray)) (n : Nat) (hnl : segs.length = n) (w : World) (hI : Inv w base G own) (hr : RowAt w a (segCells segs))
    (hws : ∀ s ∈ segs, s.1 ≤ 2 ∧ s.2.size ≤ 2097152 ∧ Pl.wf s.2.data.toList = true) (hl : n ≤ 65536) (ee : Nat) (d : Bool) (hp : path G segs n0 = some (ee, d)) :
    Calls Try.prog 34 #[.pointer (some ⟨n0, 0, none⟩), .slice a n cap] w fun e w' => e = .returned (.tuple #[.pointer (some ⟨ee, 0, none⟩), .bool d]) ∧ Below w.heap.size w w' := by
  subst hnl; exact walk base G own n0 a cap segs w hI hr hws hl ee d hp

set_option maxRecDepth 100000 in
set_option maxHeartbeats 2000000 in
theorem keeps (a1 : Option Addr) (c1 : Nat) (ks1 : List Int) (a2 : Option Addr) (c2 : Nat) (ts1 : List ByteArray) (a3 : Option Addr) (c3 : Nat) (ks2 : List Int) (a4 : Option Addr) (c4 : Nat) (ts2 : List ByteArray) (p1 p2 : Int) (w : World)
    (hr1 : RowAt w a1 (ks1.map (Value.int .u8))) (hr2 : RowAt w a2 (ts1.map Value.string)) (hr3 : RowAt w a3 (ks2.map (Value.int .u8))) (hr4 : RowAt w a4 (ts2.map Value.string))
    (hk1 : ∀ k ∈ ks1, 0 ≤ k ∧ k ≤ 255) (hk2 : ∀ k ∈ ks2, 0 ≤ k ∧ k ≤ 255)
    (h1 : ks1.length ≤ 140737488355328) (h2 : ts1.length ≤ 140737488355328) (h3 : ks2.length ≤ 140737488355328) (h4 : ts2.length ≤ 140737488355328)
    (hz1 : ∀ s ∈ ts1, s.size ≤ 140737488355328) (hz2 : ∀ s ∈ ts2, s.size ≤ 140737488355328) :
    Calls Try.prog 10 #[.slice a1 ks1.length c1, .slice a2 ts1.length c2, .slice a3 ks2.length c3, .slice a4 ts2.length c4, .int .i64 p1, .int .i64 p2] w fun e w' => e = .returned (.bool true) ∧ Below w.heap.size w w' := by
  have R1 : Hid (RowAt w a1 (ks1.map (Value.int .u8))) := hr1
  have R2 : Hid (RowAt w a2 (ts1.map Value.string)) := hr2
  have R3 : Hid (RowAt w a3 (ks2.map (Value.int .u8))) := hr3
  have R4 : Hid (RowAt w a4 (ts2.map Value.string)) := hr4
  have K1 : Hid _ := hk1
  have K2 : Hid _ := hk2
  have Z1 : Hid _ := hz1
  have Z2 : Hid _ := hz2
  clear hr1 hr2 hr3 hr4 hk1 hk2 hz1 hz2
  go_enter Try.func10, Try.ntmps10
  go_wp2_with fail
  refine (zzBytesKeeps _ _ _ _ _ ts1 _ _ _ _ _ ts2 _ _ _ R2.out R4.out h1 h2 h3 h4 Z1.out Z2.out).mono ?_
  rintro e w' ⟨⟨b, rfl⟩, rfl⟩
  cases b
  · go_wp2
    go_ret
    exact ⟨rfl, Below.refl _ _⟩
  by_cases hL : ks1.length ≤ 65536 ∧ ts1.length ≤ 65536 ∧ ks2.length ≤ 65536 ∧ ts2.length ≤ 65536
  case neg =>
    go_wp2_with fail
    all_goals go_ret
    all_goals exact ⟨rfl, Below.refl _ _⟩
  obtain ⟨l1, l2, l3, l4⟩ := hL
  clear h1 h2 h3 h4
  go_wp2_with fail
  refine (sumLen _ _ ts1 _ R2.out l2 Z1.out).mono ?_
  rintro e w' ⟨⟨n1, rfl, hn1, hs1⟩, hw'⟩
  have hw'' := hw'.symm
  clear hw'
  subst hw''
  have S1 : Hid _ := hs1
  clear hs1
  go_wp2_with fail
  refine (sumLen _ _ ts2 _ R4.out l4 Z2.out).mono ?_
  rintro e w' ⟨⟨n2, rfl, hn2, hs2⟩, hw'⟩
  have hw'' := hw'.symm
  clear hw'
  subst hw''
  have S2 : Hid _ := hs2
  clear hs2
  by_cases hsum : ks1.length + ks2.length + n1 + n2 ≤ 1048576
  case neg =>
    go_wp2_with fail
    all_goals go_ret
    all_goals exact ⟨rfl, Below.refl _ _⟩
  have z1 := S1.out (by omega)
  have z2 := S2.out (by omega)
  have hz1 : ∀ s ∈ ts1, s.size ≤ 2097152 := fun s hs => by have := sumSz_mem hs; omega
  have hz2 : ∀ s ∈ ts2, s.size ≤ 2097152 := fun s hs => by have := sumSz_mem hs; omega
  have Y1 : Hid _ := hz1
  have Y2 : Hid _ := hz2
  clear hz1 hz2 z1 z2 S1 S2 Z1 Z2
  go_wp2_with fail
  refine (allWellFormed _ _ ts1 _ R2.out (by omega) Y1.out).mono ?_
  rintro e w' ⟨rfl, hw'⟩
  have hw'' := hw'.symm
  clear hw'
  subst hw''
  cases hb1 : allWf ts1
  · go_wp2_with fail
    all_goals go_ret
    all_goals exact ⟨rfl, Below.refl _ _⟩
  have B1 : Hid _ := hb1
  clear hb1
  go_wp2_with fail
  refine (allWellFormed _ _ ts2 _ R4.out (by omega) Y2.out).mono ?_
  rintro e w' ⟨rfl, hw'⟩
  have hw'' := hw'.symm
  clear hw'
  subst hw''
  cases hb2 : allWf ts2
  · go_wp2_with fail
    all_goals go_ret
    all_goals exact ⟨rfl, Below.refl _ _⟩
  have B2 : Hid _ := hb2
  clear hb2 hsum hn1 hn2
  have P1 : Hid _ := segs_ok ks1 ts1 K1.out Y1.out B1.out
  have P2 : Hid _ := segs_ok ks2 ts2 K2.out Y2.out B2.out
  go_wp2_with fail
  refine (cloneKinds _ _ ks1 _ R1.out l1).mono ?_
  rintro e w1 ⟨⟨a1', c1', rfl, r1⟩, b1⟩
  have Q1 : Hid (RowAt w1 a1' (ks1.map (Value.int .u8))) := r1
  clear r1
  go_wp2_with fail
  refine (cloneStrings _ _ ts1 _ (R2.out.below b1) l2).mono ?_
  rintro e w2 ⟨⟨a2', c2', rfl, r2⟩, b2⟩
  have Q2 : Hid (RowAt w2 a2' (ts1.map Value.string)) := r2
  have BB2 := b1.trans (b2.mono b1.size)
  clear r2
  go_wp2_with fail
  refine (cloneKinds _ _ ks2 _ (R3.out.below BB2) l3).mono ?_
  rintro e w3 ⟨⟨a3', c3', rfl, r3⟩, b3⟩
  have Q3 : Hid (RowAt w3 a3' (ks2.map (Value.int .u8))) := r3
  have BB3 := BB2.trans (b3.mono BB2.size)
  clear r3
  go_wp2_with fail
  refine (cloneStrings _ _ ts2 _ (R4.out.below BB3) l4).mono ?_
  rintro e w4 ⟨⟨a4', c4', rfl, r4⟩, b4⟩
  have Q4 : Hid (RowAt w4 a4' (ts2.map Value.string)) := r4
  have BB4 := BB3.trans (b4.mono BB3.size)
  have b14 : Below w1.heap.size w1 w4 := (b2.trans (b3.mono b2.size)).trans (b4.mono (by have := b2.size; have := b3.size; omega))
  have b24 : Below w2.heap.size w2 w4 := b3.trans (b4.mono b3.size)
  clear r4
  go_wp2_with fail
  refine (segmentsOf _ _ ks1 _ _ ts1 _ (Q1.out.below b14) (Q2.out.below b24) l1 l2 K1.out).mono ?_
  rintro e w5 ⟨v1, rfl, o1, b5⟩
  obtain ⟨s1, sc1, rfl, q1, u1⟩ := owns_segs o1
  have BB5 := BB4.trans (b5.mono BB4.size)
  clear o1
  have T1 : Hid (RowAt w5 s1 (segCells (segsOf ks1 ts1))) := q1
  have U1 : Hid (∀ b off, s1 = some (⟨b, off, none⟩ : Addr) → b < w5.heap.size) := u1
  clear q1 u1
  go_wp2_with fail
  refine (segmentsOf _ _ ks2 _ _ ts2 _ ((Q3.out.below b4).below b5) (Q4.out.below b5) l3 l4 K2.out).mono ?_
  rintro e w6 ⟨v2, rfl, o2, b6⟩
  obtain ⟨s2, sc2, rfl, q2, u2⟩ := owns_segs o2
  have BB6 := BB5.trans (b6.mono BB5.size)
  clear o2
  have T2 : Hid (RowAt w6 s2 (segCells (segsOf ks2 ts2))) := q2
  have U2 : Hid (∀ b off, s2 = some (⟨b, off, none⟩ : Addr) → b < w6.heap.size) := u2
  have T1' : Hid (RowAt w6 s1 (segCells (segsOf ks1 ts1))) := T1.out.below b6
  have U1' : Hid (∀ b off, s1 = some (⟨b, off, none⟩ : Addr) → b < w6.heap.size) := fun b off h => Nat.lt_of_lt_of_le (U1.out b off h) b6.size
  have E1 : Hid (_ = _) := segsOf_length ks1 ts1
  have E2 : Hid (_ = _) := segsOf_length ks2 ts2
  clear q2 u2 T1 U1 Q1 Q2 Q3 Q4 b1 b2 b3 b4 b5 b6 b14 b24 BB2 BB3 BB4 BB5 R1 R2 R3 R4 K1 K2 Y1 Y2 B1 B2
  go_wp2_with fail
  refine (newNode _).mono ?_
  rintro e w7 ⟨rfl, rfl⟩
  generalize hbs : w6.heap.size = base at *
  have IB : Hid (Inv (w6.alloc nodeObj) base (G00 base) (fun b => (b, 0))) := by rw [← hbs]; exact inv_G00 w6
  have bA : Below base w6 (w6.alloc nodeObj) := (Below.refl _ _).alloc (by omega) _
  have szA : base ≤ (w6.alloc nodeObj).heap.size := by simp; omega
  have BBA : Below w.heap.size w (w6.alloc nodeObj) := BB6.alloc (by have := BB6.size; omega) _
  have T1A : Hid (RowAt (w6.alloc nodeObj) s1 (segCells (segsOf ks1 ts1))) := T1'.out.belowB bA U1'.out
  have T2A : Hid (RowAt (w6.alloc nodeObj) s2 (segCells (segsOf ks2 ts2))) := T2.out.belowB bA U2.out
  have hbw : w.heap.size ≤ base := by have := BB6.size; omega
  clear hbs bA T1' T2 BB6
  generalize w6.alloc nodeObj = w7 at *
  go_wp2_with fail
  refine (zzAdd' base (G00 base) _ base s1 sc1 _ _ E1.out p1 w7 IB.out ⟨emptyNode, by simp [G00]⟩ T1A.out U1'.out szA P1.out l1 (fun b d => by rw [lst_G00]; simp)).mono ?_
  rintro e w8 ⟨rfl, ⟨G1, own1, ee1, d1, I1, X1, H1, L1⟩, b8⟩
  have I1 : Hid _ := I1
  have X1 : Hid _ := X1
  have H1 : Hid _ := H1
  have L1 : Hid (∀ b x, lst G1 b x = if b = ee1 ∧ x = d1 then lst (G00 base) b x ++ [p1] else lst (G00 base) b x) := L1
  have szB : base ≤ w8.heap.size := Nat.le_trans szA b8.size
  have BBB : Below w.heap.size w w8 := BBA.trans (b8.mono hbw)
  have T1B : Hid (RowAt w8 s1 (segCells (segsOf ks1 ts1))) := T1A.out.belowB b8 U1'.out
  have T2B : Hid (RowAt w8 s2 (segCells (segsOf ks2 ts2))) := T2A.out.belowB b8 U2.out
  clear T1A T2A b8 BBA IB
  go_wp2_with fail
  refine (zzAdd' base G1 own1 base s2 sc2 _ _ E2.out p2 w8 I1.out (by obtain ⟨r, hr, _⟩ := X1.out base emptyNode (by simp [G00]); exact ⟨r, hr⟩) T2B.out U2.out szB P2.out l3 (added_short L1.out)).mono ?_
  rintro e w9 ⟨rfl, hA, b9⟩
  obtain ⟨G, own, ee2, d2, r1, r2, I, H1', H2', g1, g2, M1, M2⟩ := keeps_plain X1.out H1.out L1.out hA
  have I : Hid (Inv w9 base G own) := I
  have H1' : Hid _ := H1'
  have H2' : Hid _ := H2'
  have g1 : Hid (G ee1 = some r1) := g1
  have g2 : Hid (G ee2 = some r2) := g2
  have M1 : Hid (∃ t, lstL r1 d1 = p1 :: t) := M1
  have M2 : Hid (∃ t, lstL r2 d2 = t ++ [p2]) := M2
  have BBC : Below w.heap.size w w9 := BBB.trans (b9.mono hbw)
  have T1C : Hid (RowAt w9 s1 (segCells (segsOf ks1 ts1))) := T1B.out.belowB b9 U1'.out
  have T2C : Hid (RowAt w9 s2 (segCells (segsOf ks2 ts2))) := T2B.out.belowB b9 U2.out
  clear T1B T2B b9 BBB I1 X1 H1 L1 hA
  go_wp2_with fail
  refine (walk' base G own base s1 sc1 _ _ E1.out w9 I.out T1C.out P1.out l1 ee1 d1 H1'.out).mono ?_
  rintro e w10 ⟨rfl, b10⟩
  go_wp2_with fail
  refine (listAt (I.out.below b10) g1.out d1).mono ?_
  rintro e w11 ⟨rfl, rfl⟩
  obtain ⟨t1, ht1⟩ := M1.out
  obtain ⟨g, len1, gc, hv1, hpos, hcp⟩ := list_first ((I.out.below b10 ee1 r1 g1.out).lstR d1) ht1
  rw [hv1]
  have hnz : ((len1 : Int) == 0) = false := by simp; omega
  clear hv1 ht1
  go_wp2_with fail
  refine (walk' base G own base s2 sc2 _ _ E2.out w10 (I.out.below b10) (T2C.out.below b10) P2.out l3 ee2 d2 H2'.out).mono ?_
  rintro e w12 ⟨rfl, b12⟩
  have b1012 : Below w9.heap.size w9 w12 := b10.trans (b12.mono b10.size)
  clear hcp hnz hpos
  go_wp2_with fail
  refine (listAt (I.out.below b1012) g2.out d2).mono ?_
  rintro e w13 ⟨rfl, rfl⟩
  obtain ⟨t2, ht2⟩ := M2.out
  obtain ⟨g', len2, gc', hv2, hpos2, hcp2⟩ := list_last ((I.out.below b1012 ee2 r2 g2.out).lstR d2) ht2
  rw [hv2]
  clear hv2 ht2
  go_wp2_with fail
  go_ret
  exact ⟨rfl, BBC.trans (b1012.mono BBC.size)⟩

end Go.Proofs.Qxb6001154a
