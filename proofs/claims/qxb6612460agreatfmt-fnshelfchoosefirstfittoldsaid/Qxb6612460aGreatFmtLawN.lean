/-
  The law of first fit.
-/
import Derived.Test.Qxb6612460aGreatFmtLawNG
import Derived.Test.Qxb6612460aGreatFmtNewN
namespace Go.Proofs.Qxb6612460aGreatFmt
open Go.RowKit Go.Sort
attribute [local go_sem] Option.isNone_none Option.isNone_some
attribute [local go_sem] sUpon mUpon
attribute [local go_sem] Mix.isVal Mix.makes

/-- The law's answer. -/
def LawPostN (w : World) (e : Ending) (w' : World) : Prop := e = .returned (.bool true) ∧ Below w.heap.size w w'

set_option maxRecDepth 1000000 in
set_option maxHeartbeats 8000000 in
theorem lawN (a1 a2 a3 : Option Addr) (c1 c2 c3 : Nat) (cs ms gs : List Int) (rc rm rg sh : Int) (across : Bool) (w : World) (hC : RowAt w a1 (cs.map (Value.int .i64))) (hM : RowAt w a2 (ms.map (Value.int .i64))) (hG : RowAt w a3 (gs.map (Value.int .i64)))
    (l1 : cs.length ≤ 9223372036854775807) (l2 : ms.length ≤ 9223372036854775807) (l3 : gs.length ≤ 9223372036854775807) (x1 : ∀ c ∈ cs, c ≤ 9223372036854775807) (x2 : ∀ c ∈ ms, c ≤ 9223372036854775807) :
    Calls Tryz.prog 3 #[.slice a1 cs.length c1, .slice a2 ms.length c2, .slice a3 gs.length c3, .int .i64 rc, .int .i64 rm, .int .i64 rg, .int .i64 sh, .bool across] w (LawPostN w) := by
  have HC : Hid (RowAt w a1 (cs.map (Value.int .i64))) := hC
  have HM : Hid (RowAt w a2 (ms.map (Value.int .i64))) := hM
  have HG : Hid (RowAt w a3 (gs.map (Value.int .i64))) := hG
  have HX1 : Hid (∀ c ∈ cs, c ≤ 9223372036854775807) := x1
  have HX2 : Hid (∀ c ∈ ms, c ≤ 9223372036854775807) := x2
  have HP : Hid (∀ e w', LawPostN w e w' → LawPostN w e w') := fun _ _ h => h
  clear hC hM hG x1 x2
  go_enter Tryz.func3, Tryz.ntmps3
  go_wp2_with fail
  refine (zzBytesN a1 a2 a3 c1 c2 c3 cs.length ms.length gs.length rc rm rg sh across w l1 l2 l3).mono ?_
  rintro e w' ⟨⟨bv, rfl⟩, rfl⟩
  cases bv
  · go_wp2_with fail
    go_ret
    exact ⟨rfl, Below.refl _ _⟩
  by_cases b1 : 4096 < cs.length
  · have d1 : decide ((4096 : Int) < ((cs.length : Nat) : Int)) = true := by simp; omega
    go_wp2_with fail
    go_ret
    exact ⟨rfl, Below.refl _ _⟩
  have d1 : decide ((4096 : Int) < ((cs.length : Nat) : Int)) = false := by simp; omega
  by_cases b2 : 4096 < ms.length
  · have d2 : decide ((4096 : Int) < ((ms.length : Nat) : Int)) = true := by simp; omega
    go_wp2_with fail
    go_ret
    exact ⟨rfl, Below.refl _ _⟩
  have d2 : decide ((4096 : Int) < ((ms.length : Nat) : Int)) = false := by simp; omega
  by_cases b3 : 4096 < gs.length
  · have d3 : decide ((4096 : Int) < ((gs.length : Nat) : Int)) = true := by simp; omega
    go_wp2_with fail
    go_ret
    exact ⟨rfl, Below.refl _ _⟩
  have d3 : decide ((4096 : Int) < ((gs.length : Nat) : Int)) = false := by simp; omega
  by_cases brc : rc < 0
  · have drc : decide (rc < 0) = true := by simp; omega
    go_wp2_with fail
    go_ret
    exact ⟨rfl, Below.refl _ _⟩
  have drc : decide (rc < 0) = false := by simp; omega
  by_cases brm : rm < 0
  · have drm : decide (rm < 0) = true := by simp; omega
    go_wp2_with fail
    go_ret
    exact ⟨rfl, Below.refl _ _⟩
  have drm : decide (rm < 0) = false := by simp; omega
  by_cases brg : rg < 0
  · have drg : decide (rg < 0) = true := by simp; omega
    go_wp2_with fail
    go_ret
    exact ⟨rfl, Below.refl _ _⟩
  have drg : decide (rg < 0) = false := by simp; omega
  by_cases brG : 65536 < rg
  · have drG : decide (65536 < rg) = true := by simp; omega
    go_wp2_with fail
    go_ret
    exact ⟨rfl, Below.refl _ _⟩
  have drG : decide (65536 < rg) = false := by simp; omega
  by_cases bsh : sh < 0
  · have dsh : decide (sh < 0) = true := by simp; omega
    go_wp2_with fail
    go_ret
    exact ⟨rfl, Below.refl _ _⟩
  have dsh : decide (sh < 0) = false := by simp; omega
  by_cases bsH : 1000 ≤ sh
  · have dsH : decide (1000 ≤ sh) = true := by simp; omega
    go_wp2_with fail
    go_ret
    exact ⟨rfl, Below.refl _ _⟩
  have dsH : decide (1000 ≤ sh) = false := by simp; omega
  obtain ⟨k, rfl⟩ := Int.eq_ofNat_of_zero_le (show 0 ≤ rg by omega)
  by_cases hrk : 0 < sh ∧ k ≠ 1
  · have ds0 : decide (0 < sh) = true := by simp [hrk.1]
    have dk1 : ((k : Int) != 1) = true := bne_iff_ne.2 (by omega)
    go_wp2_with fail
    go_ret
    exact ⟨rfl, Below.refl _ _⟩
  have HRQ : Hid (ReqOk k sh) := by
    by_cases h0 : 0 < sh
    · exact .inr ⟨h0, by omega, by by_cases e : k = 1; exact e; exact absurd ⟨h0, e⟩ hrk⟩
    · exact .inl ⟨by omega, by omega⟩
  go_upto_region 7 with fail
  go_cut [75] from 70 to 75 (fun v wx => v = .bool false ∧ w = wx)
  case first =>
    by_cases h0 : 0 < sh
    · have ds0 : decide (0 < sh) = true := by simp [h0]
      obtain rfl : k = 1 := by by_cases e : k = 1; exact e; exact absurd ⟨h0, e⟩ hrk
      go_wp2_with fail
      go_meet
      first | exact ⟨rfl, rfl⟩ | ((repeat apply Exists.intro); exact ⟨⟨rfl, rfl⟩, rfl⟩)
    · have ds0 : decide (0 < sh) = false := by simp; omega
      go_wp2_with fail
      go_meet
      first | exact ⟨rfl, rfl⟩ | ((repeat apply Exists.intro); exact ⟨⟨rfl, rfl⟩, rfl⟩)
  case rest =>
  obtain ⟨rfl, rfl⟩ := hcut
  clear d1 d2 d3 drc drm drg drG dsh dsH hrk
  go_wp2_with fail
  refine (zzMin3 cs.length ms.length gs.length w).mono ?_
  rintro e w' ⟨rfl, rfl⟩
  obtain ⟨n, hn⟩ : ∃ n, n = min cs.length (min ms.length gs.length) := ⟨_, rfl⟩
  rw [← hn]
  have HNN : Hid (n = (nsOf cs ms gs).length) := by show _ = _; rw [nsOf_length]; exact hn
  have hn2 : n ≤ 4096 := by omega
  have HNM : Hid (n ≤ min cs.length (min ms.length gs.length)) := by show _ ≤ _; omega
  clear hn
  go_wp2_with fail
  refine (zzOutside a1 a2 a3 c1 c2 c3 cs ms gs n w HC.out HM.out HG.out HNM.out hn2).mono ?_
  rintro e w' ⟨⟨bv, rfl, hgd⟩, rfl⟩
  cases bv
  case true =>
    go_wp2_with fail
    go_ret
    exact ⟨rfl, Below.refl _ _⟩
  have HGD : Hid (GoodTo cs ms gs n) := hgd rfl
  clear hgd
  go_wp2_with fail
  refine (zzNodes a1 a2 a3 c1 c2 c3 cs ms gs n w HC.out HM.out HG.out HNN.out hn2 HGD.out).mono ?_
  rintro e W2 ⟨rfl, hNI, hb2, hlt2⟩
  have HBD : Hid (∀ nd ∈ nsOf cs ms gs, 0 ≤ nd.1 ∧ nd.1 ≤ 9223372036854775807 ∧ 0 ≤ nd.2.1 ∧ nd.2.1 ≤ 9223372036854775807 ∧ nd.2.2 ≤ 65536) := fun nd hnd => by
    obtain ⟨i, hi⟩ := List.mem_iff_getElem?.1 hnd
    have hil := (List.getElem?_eq_some_iff.1 hi).1
    obtain ⟨e1, e2, e3, hat⟩ := nsOf_at hil
    rw [hi] at hat
    have hat' := Option.some.inj hat
    subst hat'
    obtain ⟨_, _, _, q1, q2, q3, q4⟩ := HGD.out i (by rw [HNN.out]; exact hil)
    exact ⟨q1, HX1.out _ (List.getElem_mem _), q2, HX2.out _ (List.getElem_mem _), by simp only; omega⟩
  have hnl : (nsOf cs ms gs).length ≤ 65536 := by have := HNN.out; omega
  go_wp2_with fail
  refine (newLedgerN w.heap.size (nsOf cs ms gs).length (nsOf cs ms gs) W2 hNI hnl HBD.out).mono ?_
  rintro e W3 ⟨hb3, l, s', m, cells, rfl, hl2, hsh, hcs, hSh, _⟩
  have hbA : Below w.heap.size w W3 := hb2.trans (hb3.mono hb2.size)
  have hbR : Below W3.heap.size W3 (W3.alloc (.cells #[.int .i64 rc, .int .i64 rm, .int .i64 (k : Nat), .int .i64 sh, .int .i64 0, .int .i64 0, .bool false, .string ⟨#[]⟩] 34)) := below_alloc1 _ _
  have HRB : Hid ((W3.alloc (.cells #[.int .i64 rc, .int .i64 rm, .int .i64 (k : Nat), .int .i64 sh, .int .i64 0, .int .i64 0, .bool false, .string ⟨#[]⟩] 34)).heap[W3.heap.size]? = some (.cells #[.int .i64 rc, .int .i64 rm, .int .i64 (k : Nat), .int .i64 sh, .int .i64 0, .int .i64 0, .bool false, .string ⟨#[]⟩] 34)) := heap_alloc_new W3 _
  have G1 : Hid _ := (hbR.cell (cell_lt hl2)).trans hl2
  have G2 : Hid _ := (hbR.block _ (heap_lt hsh)).trans hsh
  have G3 : Hid _ := hSh.below hbR
  clear hl2 hsh hSh hb2 hb3 hNI hlt2
  go_wp2_with fail
  generalize hW4 : W3.alloc (.cells #[.int .i64 rc, .int .i64 rm, .int .i64 (k : Nat), .int .i64 sh, .int .i64 0, .int .i64 0, .bool false, .string ⟨#[]⟩] 34) = W4 at *
  clear hW4
  have hbB : Below w.heap.size w W4 := hbA.trans (hbR.mono hbA.size)
  refine (zzChooseN l s' m cells (nsOf cs ms gs) (vsOf (nsOf cs ms gs) (nsOf cs ms gs).length) rc rm k sh across W4 G1.out G2.out hcs G3.out (by have := vsOf_length (nsOf cs ms gs) (nsOf cs ms gs).length; omega) HRQ.out).mono ?_
  rintro e W5 ⟨hb5, ⟨v, nd, hhit, g, cap, L, rfl, hown, hgr⟩ | ⟨hnone, rfl⟩⟩
  · have HFF : Hid (FirstFit (nsOf cs ms gs) rc rm k v nd) := hit_first hhit
    have HOW : Hid _ := hown
    have HGR : Hid (GrantedIds (List.replicate nd.2.2 (0, true)) k (!across) L) := hgr
    clear hhit hown hgr
    unfold grantVN
    have hb6 : Below W5.heap.size W5 (W5.alloc (.cells #[.int .i64 (v : Nat), .slice (some ⟨g, 0, none⟩) k cap, .int .i64 rc, .int .i64 rm, .int .i64 (k : Nat), .int .i64 sh, .int .i64 0, .int .i64 0, .bool false, .string ⟨#[]⟩] 36)) := below_alloc1 _ _
    have HGB : Hid ((W5.alloc (.cells #[.int .i64 (v : Nat), .slice (some ⟨g, 0, none⟩) k cap, .int .i64 rc, .int .i64 rm, .int .i64 (k : Nat), .int .i64 sh, .int .i64 0, .int .i64 0, .bool false, .string ⟨#[]⟩] 36)).heap[W5.heap.size]? = some (.cells #[.int .i64 (v : Nat), .slice (some ⟨g, 0, none⟩) k cap, .int .i64 rc, .int .i64 rm, .int .i64 (k : Nat), .int .i64 sh, .int .i64 0, .int .i64 0, .bool false, .string ⟨#[]⟩] 36)) := heap_alloc_new W5 _
    have HR6 : Hid ((W5.alloc (.cells #[.int .i64 (v : Nat), .slice (some ⟨g, 0, none⟩) k cap, .int .i64 rc, .int .i64 rm, .int .i64 (k : Nat), .int .i64 sh, .int .i64 0, .int .i64 0, .bool false, .string ⟨#[]⟩] 36)).heap[W3.heap.size]? = some (.cells #[.int .i64 rc, .int .i64 rm, .int .i64 (k : Nat), .int .i64 sh, .int .i64 0, .int .i64 0, .bool false, .string ⟨#[]⟩] 34)) := alloc_blk ((hb5.block _ (heap_lt HRB.out)).trans HRB.out) _
    have HOW6 : Hid _ := owns_below HOW.out hb6
    have hbC : Below w.heap.size w (W5.alloc (.cells #[.int .i64 (v : Nat), .slice (some ⟨g, 0, none⟩) k cap, .int .i64 rc, .int .i64 rm, .int .i64 (k : Nat), .int .i64 sh, .int .i64 0, .int .i64 0, .bool false, .string ⟨#[]⟩] 36)) := (hbB.trans (hb5.mono hbB.size)).trans (hb6.mono (Nat.le_trans hbB.size hb5.size))
    go_upto_region 15 with fail
    generalize hW6 : W5.alloc (.cells #[.int .i64 (v : Nat), .slice (some ⟨g, 0, none⟩) k cap, .int .i64 rc, .int .i64 rm, .int .i64 (k : Nat), .int .i64 sh, .int .i64 0, .int .i64 0, .bool false, .string ⟨#[]⟩] 36) = W6 at *
    clear hW6 hb6
    go_wp2_with fail
    refine (zzFirstFit a1 a2 a3 c1 c2 c3 cs ms gs n rc rm k sh HRQ.out W6 (HC.out.below hbC) (HM.out.below hbC) (HG.out.below hbC) HNN.out hn2 HGD.out).mono ?_
    rintro e w' ⟨⟨v', nd', rfl, hff⟩ | ⟨rfl, hno⟩, rfl⟩
    · obtain ⟨rfl, rfl⟩ := first_same HFF.out hff
      clear hff
      have hvl := (List.getElem?_eq_some_iff.1 HFF.out.1).1
      obtain ⟨e1, e2, e3, hat⟩ := nsOf_at hvl
      rw [HFF.out.1] at hat
      have hat' := Option.some.inj hat
      have hz : 0 ≤ gs[v] := by obtain ⟨_, _, _, _, _, h, _⟩ := HGD.out v (by rw [HNN.out]; exact hvl); exact h
      have HGN : Hid (gs[v] = (nd.2.2 : Nat)) := by show _ = _; rw [hat']; simp only; omega
      obtain ⟨b3, o3, ha, x3⟩ := row_i64 (HG.out.below hbC) v e3
      cases ha
      rw [HGN.out] at x3
      clear hat hat' hz hvl
      have dv0 : decide ((0 : Int) ≤ (v : Int)) = true := by simp
      have t0 := blk_c HGB.out (Below.refl _ _) (i := 0) rfl
      have t1 := blk_c HGB.out (Below.refl _ _) (i := 1) rfl
      have t2 := blk_c HGB.out (Below.refl _ _) (i := 2) rfl
      have t3 := blk_c HGB.out (Below.refl _ _) (i := 3) rfl
      have t4 := blk_c HGB.out (Below.refl _ _) (i := 4) rfl
      have t5 := blk_c HGB.out (Below.refl _ _) (i := 5) rfl
      have t6 := blk_c HGB.out (Below.refl _ _) (i := 6) rfl
      have t7 := blk_c HGB.out (Below.refl _ _) (i := 7) rfl
      have t8 := blk_c HGB.out (Below.refl _ _) (i := 8) rfl
      have t9 := blk_c HGB.out (Below.refl _ _) (i := 9) rfl
      have q0 := blk_c HR6.out (Below.refl _ _) (i := 0) rfl
      have q1 := blk_c HR6.out (Below.refl _ _) (i := 1) rfl
      have q2 := blk_c HR6.out (Below.refl _ _) (i := 2) rfl
      have q3 := blk_c HR6.out (Below.refl _ _) (i := 3) rfl
      have q4 := blk_c HR6.out (Below.refl _ _) (i := 4) rfl
      have q5 := blk_c HR6.out (Below.refl _ _) (i := 5) rfl
      have q6 := blk_c HR6.out (Below.refl _ _) (i := 6) rfl
      have q7 := blk_c HR6.out (Below.refl _ _) (i := 7) rfl
      go_wp2_with fail
      refine (zzGrant_yes v g cap k nd.2.2 rc rm sh (!across) L W4.heap.size W6 (by omega) HOW6.out HGR.out).mono ?_
      rintro e W7 ⟨rfl, hb7⟩
      have HB7 : Hid (Below w.heap.size w W7) := hbC.trans (hb7.mono hbC.size)
      clear hb7
      go_wp2_with fail
      go_ret
      exact ⟨rfl, HB7.out⟩
    · exact absurd HFF.out.2.1 (hno v nd HFF.out.1)
  · have HNO : Hid (NoFit (nsOf cs ms gs) rc rm k) := none_nofit hnone
    clear hnone
    unfold grantVN
    have hb6 : Below W5.heap.size W5 (W5.alloc (.cells #[.int .i64 0, .slice none 0 0, .int .i64 0, .int .i64 0, .int .i64 0, .int .i64 0, .int .i64 0, .int .i64 0, .bool false, .string ⟨#[]⟩] 36)) := below_alloc1 _ _
    have HGB : Hid ((W5.alloc (.cells #[.int .i64 0, .slice none 0 0, .int .i64 0, .int .i64 0, .int .i64 0, .int .i64 0, .int .i64 0, .int .i64 0, .bool false, .string ⟨#[]⟩] 36)).heap[W5.heap.size]? = some (.cells #[.int .i64 0, .slice none 0 0, .int .i64 0, .int .i64 0, .int .i64 0, .int .i64 0, .int .i64 0, .int .i64 0, .bool false, .string ⟨#[]⟩] 36)) := heap_alloc_new W5 _
    have HR6 : Hid ((W5.alloc (.cells #[.int .i64 0, .slice none 0 0, .int .i64 0, .int .i64 0, .int .i64 0, .int .i64 0, .int .i64 0, .int .i64 0, .bool false, .string ⟨#[]⟩] 36)).heap[W3.heap.size]? = some (.cells #[.int .i64 rc, .int .i64 rm, .int .i64 (k : Nat), .int .i64 sh, .int .i64 0, .int .i64 0, .bool false, .string ⟨#[]⟩] 34)) := alloc_blk ((hb5.block _ (heap_lt HRB.out)).trans HRB.out) _
    have hbC : Below w.heap.size w (W5.alloc (.cells #[.int .i64 0, .slice none 0 0, .int .i64 0, .int .i64 0, .int .i64 0, .int .i64 0, .int .i64 0, .int .i64 0, .bool false, .string ⟨#[]⟩] 36)) := (hbB.trans (hb5.mono hbB.size)).trans (hb6.mono (Nat.le_trans hbB.size hb5.size))
    go_upto_region 15 with fail
    generalize hW6 : W5.alloc (.cells #[.int .i64 0, .slice none 0 0, .int .i64 0, .int .i64 0, .int .i64 0, .int .i64 0, .int .i64 0, .int .i64 0, .bool false, .string ⟨#[]⟩] 36) = W6 at *
    clear hW6 hb6
    go_wp2_with fail
    refine (zzFirstFit a1 a2 a3 c1 c2 c3 cs ms gs n rc rm k sh HRQ.out W6 (HC.out.below hbC) (HM.out.below hbC) (HG.out.below hbC) HNN.out hn2 HGD.out).mono ?_
    rintro e w' ⟨⟨v', nd', rfl, hff⟩ | ⟨rfl, hno⟩, rfl⟩
    · exact absurd hff.2.1 (HNO.out v' nd' hff.1)
    · clear hno
      have t0 := blk_c HGB.out (Below.refl _ _) (i := 0) rfl
      have t1 := blk_c HGB.out (Below.refl _ _) (i := 1) rfl
      have t2 := blk_c HGB.out (Below.refl _ _) (i := 2) rfl
      have t3 := blk_c HGB.out (Below.refl _ _) (i := 3) rfl
      have t4 := blk_c HGB.out (Below.refl _ _) (i := 4) rfl
      have t5 := blk_c HGB.out (Below.refl _ _) (i := 5) rfl
      have t6 := blk_c HGB.out (Below.refl _ _) (i := 6) rfl
      have t7 := blk_c HGB.out (Below.refl _ _) (i := 7) rfl
      have t8 := blk_c HGB.out (Below.refl _ _) (i := 8) rfl
      have t9 := blk_c HGB.out (Below.refl _ _) (i := 9) rfl
      have q0 := blk_c HR6.out (Below.refl _ _) (i := 0) rfl
      have q1 := blk_c HR6.out (Below.refl _ _) (i := 1) rfl
      have q2 := blk_c HR6.out (Below.refl _ _) (i := 2) rfl
      have q3 := blk_c HR6.out (Below.refl _ _) (i := 3) rfl
      have q4 := blk_c HR6.out (Below.refl _ _) (i := 4) rfl
      have q5 := blk_c HR6.out (Below.refl _ _) (i := 5) rfl
      have q6 := blk_c HR6.out (Below.refl _ _) (i := 6) rfl
      have q7 := blk_c HR6.out (Below.refl _ _) (i := 7) rfl
      go_wp2_with fail
      refine (zzGrant_no rc rm k sh k 0 W6).mono ?_
      rintro e W7 ⟨rfl, hb7⟩
      have HB7 : Hid (Below w.heap.size w W7) := hbC.trans (hb7.mono hbC.size)
      clear hb7
      go_wp2_with fail
      go_ret
      exact ⟨rfl, HB7.out⟩

end Go.Proofs.Qxb6612460aGreatFmt
