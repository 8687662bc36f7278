/-
  The law of two decisions in a row.
-/
import Derived.Test.Qxb6612460aGreatFmtLawNG
import Derived.Test.Qxb6612460aGreatFmtNewM
import Derived.Test.Qxb6612460aGreatFmtZZR
namespace Go.Proofs.Qxb6612460aGreatFmt
open Go.RowKit Go.Sort
attribute [local go_sem] Option.isNone_none Option.isNone_some
attribute [local go_sem] sUpon mUpon
attribute [local go_sem] Mix.isVal Mix.makes

/-- The law's answer. -/
def LawPostT (w : World) (e : Ending) (w' : World) : Prop := e = .returned (.bool true) ∧ Below w.heap.size w w'

theorem owns_touch {Y X : World} {base : Nat} {v : Value} {n : Nat} {xs : List Value} (h : Y.ownsRow base 3 1 v n xs) (ht : ∀ (q : Nat) (cs : Array Value) (t : TypeId), Y.heap[q]? = some (Obj.cells cs t (0, 0)) → t = 3 ∨ t = 34 ∨ t = 36 → X.heap[q]? = some (.cells cs t (0, 0))) : X.ownsRow base 3 1 v n xs := by
  refine ownsRow_same h (fun q hq => ?_)
  obtain ⟨-, h | ⟨g', cap', cur, r1, -, r3, -⟩⟩ := h
  · rw [h.1] at hq
    cases hq
  · rw [r1] at hq
    cases hq
    exact (ht _ _ _ r3 (.inl rfl)).trans r3.symm

set_option maxRecDepth 1000000 in
set_option maxHeartbeats 8000000 in
theorem lawT (a1 a2 a3 : Option Addr) (c1 c2 c3 : Nat) (cs ms gs : List Int) (rc rm rg sh : Int) (across : Bool) (w : World) (hC : RowAt w a1 (cs.map (Value.int .i64))) (hM : RowAt w a2 (ms.map (Value.int .i64))) (hG : RowAt w a3 (gs.map (Value.int .i64)))
    (l1 : cs.length ≤ 9223372036854775807) (l2 : ms.length ≤ 9223372036854775807) (l3 : gs.length ≤ 9223372036854775807) (x1 : ∀ c ∈ cs, c ≤ 9223372036854775807) (x2 : ∀ c ∈ ms, c ≤ 9223372036854775807) :
    Calls Tryz.prog 5 #[.slice a1 cs.length c1, .slice a2 ms.length c2, .slice a3 gs.length c3, .int .i64 rc, .int .i64 rm, .int .i64 rg, .int .i64 sh, .bool across] w (LawPostT w) := by
  have HC : Hid (RowAt w a1 (cs.map (Value.int .i64))) := hC
  have HM : Hid (RowAt w a2 (ms.map (Value.int .i64))) := hM
  have HG : Hid (RowAt w a3 (gs.map (Value.int .i64))) := hG
  have HX1 : Hid (∀ c ∈ cs, c ≤ 9223372036854775807) := x1
  have HX2 : Hid (∀ c ∈ ms, c ≤ 9223372036854775807) := x2
  have HP : Hid (∀ e w', LawPostT w e w' → LawPostT w e w') := fun _ _ h => h
  clear hC hM hG x1 x2
  go_enter Tryz.func5, Tryz.ntmps5
  go_wp2_with fail
  refine (zzBytesT a1 a2 a3 c1 c2 c3 cs.length ms.length gs.length rc rm rg sh across w l1 l2 l3).mono ?_
  rintro e w' ⟨⟨bv, rfl⟩, rfl⟩
  cases bv
  · go_wp2_with fail
    go_ret
    exact ⟨rfl, Below.refl _ _⟩
  by_cases b1 : 4096 < cs.length
  · have d1 : decide ((4096 : Int) < ((cs.length : Nat) : Int)) = true := by simp; omega
    go_wp2_with fail
    go_ret
    exact ⟨rfl, Below.refl _ _⟩
  have d1 : decide ((4096 : Int) < ((cs.length : Nat) : Int)) = false := by simp; omega
  by_cases b2 : 4096 < ms.length
  · have d2 : decide ((4096 : Int) < ((ms.length : Nat) : Int)) = true := by simp; omega
    go_wp2_with fail
    go_ret
    exact ⟨rfl, Below.refl _ _⟩
  have d2 : decide ((4096 : Int) < ((ms.length : Nat) : Int)) = false := by simp; omega
  by_cases b3 : 4096 < gs.length
  · have d3 : decide ((4096 : Int) < ((gs.length : Nat) : Int)) = true := by simp; omega
    go_wp2_with fail
    go_ret
    exact ⟨rfl, Below.refl _ _⟩
  have d3 : decide ((4096 : Int) < ((gs.length : Nat) : Int)) = false := by simp; omega
  by_cases brc : rc < 0
  · have drc : decide (rc < 0) = true := by simp; omega
    go_wp2_with fail
    go_ret
    exact ⟨rfl, Below.refl _ _⟩
  have drc : decide (rc < 0) = false := by simp; omega
  by_cases brm : rm < 0
  · have drm : decide (rm < 0) = true := by simp; omega
    go_wp2_with fail
    go_ret
    exact ⟨rfl, Below.refl _ _⟩
  have drm : decide (rm < 0) = false := by simp; omega
  by_cases brg : rg < 0
  · have drg : decide (rg < 0) = true := by simp; omega
    go_wp2_with fail
    go_ret
    exact ⟨rfl, Below.refl _ _⟩
  have drg : decide (rg < 0) = false := by simp; omega
  by_cases brG : 65536 < rg
  · have drG : decide (65536 < rg) = true := by simp; omega
    go_wp2_with fail
    go_ret
    exact ⟨rfl, Below.refl _ _⟩
  have drG : decide (65536 < rg) = false := by simp; omega
  by_cases bsh : sh < 0
  · have dsh : decide (sh < 0) = true := by simp; omega
    go_wp2_with fail
    go_ret
    exact ⟨rfl, Below.refl _ _⟩
  have dsh : decide (sh < 0) = false := by simp; omega
  by_cases bsH : 1000 ≤ sh
  · have dsH : decide (1000 ≤ sh) = true := by simp; omega
    go_wp2_with fail
    go_ret
    exact ⟨rfl, Below.refl _ _⟩
  have dsH : decide (1000 ≤ sh) = false := by simp; omega
  obtain ⟨k, rfl⟩ := Int.eq_ofNat_of_zero_le (show 0 ≤ rg by omega)
  by_cases hrk : 0 < sh ∧ k ≠ 1
  · have ds0 : decide (0 < sh) = true := by simp [hrk.1]
    have dk1 : ((k : Int) != 1) = true := bne_iff_ne.2 (by omega)
    go_wp2_with fail
    go_ret
    exact ⟨rfl, Below.refl _ _⟩
  have HRQ : Hid (ReqOk k sh) := by
    by_cases h0 : 0 < sh
    · exact .inr ⟨h0, by omega, by by_cases e : k = 1; exact e; exact absurd ⟨h0, e⟩ hrk⟩
    · exact .inl ⟨by omega, by omega⟩
  go_upto_region 7 with fail
  go_cut [78] from 73 to 78 (fun v wx => v = .bool false ∧ w = wx)
  case first =>
    by_cases h0 : 0 < sh
    · have ds0 : decide (0 < sh) = true := by simp [h0]
      obtain rfl : k = 1 := by by_cases e : k = 1; exact e; exact absurd ⟨h0, e⟩ hrk
      go_wp2_with fail
      go_meet
      first | exact ⟨rfl, rfl⟩ | ((repeat apply Exists.intro); exact ⟨⟨rfl, rfl⟩, rfl⟩)
    · have ds0 : decide (0 < sh) = false := by simp; omega
      go_wp2_with fail
      go_meet
      first | exact ⟨rfl, rfl⟩ | ((repeat apply Exists.intro); exact ⟨⟨rfl, rfl⟩, rfl⟩)
  case rest =>
  obtain ⟨rfl, rfl⟩ := hcut
  clear d1 d2 d3 drc drm drg drG dsh dsH hrk
  go_wp2_with fail
  refine (zzMin3 cs.length ms.length gs.length w).mono ?_
  rintro e w' ⟨rfl, rfl⟩
  obtain ⟨n, hn⟩ : ∃ n, n = min cs.length (min ms.length gs.length) := ⟨_, rfl⟩
  rw [← hn]
  have HNN : Hid (n = (nsOf cs ms gs).length) := by show _ = _; rw [nsOf_length]; exact hn
  have hn2 : n ≤ 4096 := by omega
  have HNM : Hid (n ≤ min cs.length (min ms.length gs.length)) := by show _ ≤ _; omega
  clear hn
  go_wp2_with fail
  refine (zzOutside a1 a2 a3 c1 c2 c3 cs ms gs n w HC.out HM.out HG.out HNM.out hn2).mono ?_
  rintro e w' ⟨⟨bv, rfl, hgd⟩, rfl⟩
  cases bv
  case true =>
    go_wp2_with fail
    go_ret
    exact ⟨rfl, Below.refl _ _⟩
  have HGD : Hid (GoodTo cs ms gs n) := hgd rfl
  clear hgd
  go_wp2_with fail
  refine (zzNodes a1 a2 a3 c1 c2 c3 cs ms gs n w HC.out HM.out HG.out HNN.out hn2 HGD.out).mono ?_
  rintro e W2 ⟨rfl, hNI, hb2, hlt2⟩
  have HBD : Hid (∀ nd ∈ nsOf cs ms gs, 0 ≤ nd.1 ∧ nd.1 ≤ 9223372036854775807 ∧ 0 ≤ nd.2.1 ∧ nd.2.1 ≤ 9223372036854775807 ∧ nd.2.2 ≤ 65536) := fun nd hnd => by
    obtain ⟨i, hi⟩ := List.mem_iff_getElem?.1 hnd
    have hil := (List.getElem?_eq_some_iff.1 hi).1
    obtain ⟨e1, e2, e3, hat⟩ := nsOf_at hil
    rw [hi] at hat
    have hat' := Option.some.inj hat
    subst hat'
    obtain ⟨_, _, _, q1, q2, q3, q4⟩ := HGD.out i (by rw [HNN.out]; exact hil)
    exact ⟨q1, HX1.out _ (List.getElem_mem _), q2, HX2.out _ (List.getElem_mem _), by simp only; omega⟩
  have hnl : (nsOf cs ms gs).length ≤ 65536 := by have := HNN.out; omega
  go_wp2_with fail
  refine (newLedgerM w.heap.size (nsOf cs ms gs).length (nsOf cs ms gs) W2 hNI hnl HBD.out).mono ?_
  rintro e W3 ⟨hb3, l, s', m, cells, rfl, hwl, hl, hcs, h0, hsl, hSH⟩
  have hbA : Below w.heap.size w W3 := hb2.trans (hb3.mono hb2.size)
  have hw2 := hb2.size
  have hbR : Below W3.heap.size W3 (W3.alloc (.cells #[.int .i64 rc, .int .i64 rm, .int .i64 (k : Nat), .int .i64 sh, .int .i64 0, .int .i64 0, .bool false, .string ⟨#[]⟩] 34)) := below_alloc1 _ _
  have HRB : Hid ((W3.alloc (.cells #[.int .i64 rc, .int .i64 rm, .int .i64 (k : Nat), .int .i64 sh, .int .i64 0, .int .i64 0, .bool false, .string ⟨#[]⟩] 34)).heap[W3.heap.size]? = some (.cells #[.int .i64 rc, .int .i64 rm, .int .i64 (k : Nat), .int .i64 sh, .int .i64 0, .int .i64 0, .bool false, .string ⟨#[]⟩] 34)) := heap_alloc_new W3 _
  have hll := heap_lt hl
  have hBl : w.heap.size ≤ l := by omega
  have G1 : Hid _ := (hbR.block _ hll).trans hl
  have G2 : Hid (∀ Z : World, (∀ q, q < l → Z.heap[q]? = (W3.alloc (.cells #[.int .i64 rc, .int .i64 rm, .int .i64 (k : Nat), .int .i64 sh, .int .i64 0, .int .i64 0, .bool false, .string ⟨#[]⟩] 34)).heap[q]?) → ShelfAt Z s' m (nsOf cs ms gs) (vsOf (nsOf cs ms gs) (nsOf cs ms gs).length) ∧ Z.heap[s']? = some (.cells cells 58 (0, 0))) := fun Z hZ => hSH Z (fun q hq => (hZ q hq).trans (hbR.block q (by omega)))
  have H0 : Hid _ := h0
  clear hl hSH hb2 hb3 hNI hlt2 h0 hw2 hwl
  go_wp2_with fail
  generalize hW4 : W3.alloc (.cells #[.int .i64 rc, .int .i64 rm, .int .i64 (k : Nat), .int .i64 sh, .int .i64 0, .int .i64 0, .bool false, .string ⟨#[]⟩] 34) = W4 at *
  clear hW4
  have hbB : Below w.heap.size w W4 := hbA.trans (hbR.mono hbA.size)
  have HFIRST : Hid (Calls Tryz.prog 17 #[.pointer (some ⟨l, 0, none⟩), reqV rc rm k sh, .bool across] W4 fun e X => TouchS w.heap.size W4 X ∧ ZRes W4.heap.size X (nsOf cs ms gs) (vsOf (nsOf cs ms gs) (nsOf cs ms gs).length) rc rm k sh across e ∧ Ready w.heap.size X l (nsOf cs ms gs) (vsOf (nsOf cs ms gs) (nsOf cs ms gs).length) rc rm k sh across) :=
    zzFirst w.heap.size l s' m cells _ _ (nsOf cs ms gs) (vsOf (nsOf cs ms gs) (nsOf cs ms gs).length) rc rm k sh across W4 G1.out G2.out hcs H0.out hsl (by have := HNN.out; omega) (by have := vsOf_length (nsOf cs ms gs) (nsOf cs ms gs).length; omega) HRQ.out hBl
  clear G1 G2 H0 hcs hsl hBl hll hbR hbA
  refine (zzFirstFit a1 a2 a3 c1 c2 c3 cs ms gs n rc rm k sh HRQ.out W4 (HC.out.below hbB) (HM.out.below hbB) (HG.out.below hbB) HNN.out hn2 HGD.out).mono ?_
  rintro e w' ⟨⟨v, nd, rfl, hff⟩ | ⟨rfl, hno⟩, rfl⟩
  · have HFF : Hid (FirstFit (nsOf cs ms gs) rc rm k v nd) := hff
    clear hff
    have hvl := (List.getElem?_eq_some_iff.1 HFF.out.1).1
    obtain ⟨e1, e2, e3, hat⟩ := nsOf_at hvl
    rw [HFF.out.1] at hat
    have hat' := Option.some.inj hat
    have hz : 0 ≤ gs[v] := by obtain ⟨_, _, _, _, _, h, _⟩ := HGD.out v (by rw [HNN.out]; exact hvl); exact h
    have HGN : Hid (gs[v] = (nd.2.2 : Nat)) := by show _ = _; rw [hat']; simp only; omega
    obtain ⟨b3, o3, ha, x3⟩ := row_i64 (HG.out.below hbB) v e3
    cases ha
    rw [HGN.out] at x3
    clear hat hat' hz hvl
    have dv0 : decide ((0 : Int) ≤ (v : Int)) = true := by simp
    have q0 := blk_c HRB.out (Below.refl _ _) (i := 0) rfl
    have q1 := blk_c HRB.out (Below.refl _ _) (i := 1) rfl
    have q2 := blk_c HRB.out (Below.refl _ _) (i := 2) rfl
    have q3 := blk_c HRB.out (Below.refl _ _) (i := 3) rfl
    have q4 := blk_c HRB.out (Below.refl _ _) (i := 4) rfl
    have q5 := blk_c HRB.out (Below.refl _ _) (i := 5) rfl
    have q6 := blk_c HRB.out (Below.refl _ _) (i := 6) rfl
    have q7 := blk_c HRB.out (Below.refl _ _) (i := 7) rfl
    go_wp2_with fail
    refine HFIRST.out.mono ?_
    clear HFIRST
    rintro e W5 ⟨⟨hb5, hs5, ht5⟩, ⟨v1, nd1, hhit, g, cap, L, rfl, hown, hgr⟩ | ⟨hnone, rfl⟩, hrd⟩
    case inr => exact absurd HFF.out.2.1 ((none_nofit hnone) v nd HFF.out.1)
    obtain ⟨rfl, rfl⟩ := first_same HFF.out (hit_first hhit)
    clear hhit x3 q0 q1 q2 q3 q4 q5 q6 q7 dv0
    have HOW : Hid _ := hown
    have HGR : Hid (GrantedIds (List.replicate nd.2.2 (0, true)) k (!across) L) := hgr
    have HRD : Hid (Ready w.heap.size W5 l (nsOf cs ms gs) (vsOf (nsOf cs ms gs) (nsOf cs ms gs).length) rc rm k sh across) := hrd
    have HR5 : Hid (W5.heap[W3.heap.size]? = some (.cells #[.int .i64 rc, .int .i64 rm, .int .i64 (k : Nat), .int .i64 sh, .int .i64 0, .int .i64 0, .bool false, .string ⟨#[]⟩] 34)) := ht5 _ _ _ HRB.out (.inr (.inl rfl))
    clear hown hgr hrd ht5
    unfold grantVN
    have hb6 : Below W5.heap.size W5 (W5.alloc (.cells #[.int .i64 (v : Nat), .slice (some ⟨g, 0, none⟩) k cap, .int .i64 rc, .int .i64 rm, .int .i64 (k : Nat), .int .i64 sh, .int .i64 0, .int .i64 0, .bool false, .string ⟨#[]⟩] 36)) := below_alloc1 _ _
    have HGB : Hid ((W5.alloc (.cells #[.int .i64 (v : Nat), .slice (some ⟨g, 0, none⟩) k cap, .int .i64 rc, .int .i64 rm, .int .i64 (k : Nat), .int .i64 sh, .int .i64 0, .int .i64 0, .bool false, .string ⟨#[]⟩] 36)).heap[W5.heap.size]? = some (.cells #[.int .i64 (v : Nat), .slice (some ⟨g, 0, none⟩) k cap, .int .i64 rc, .int .i64 rm, .int .i64 (k : Nat), .int .i64 sh, .int .i64 0, .int .i64 0, .bool false, .string ⟨#[]⟩] 36)) := heap_alloc_new W5 _
    have HR6 : Hid ((W5.alloc (.cells #[.int .i64 (v : Nat), .slice (some ⟨g, 0, none⟩) k cap, .int .i64 rc, .int .i64 rm, .int .i64 (k : Nat), .int .i64 sh, .int .i64 0, .int .i64 0, .bool false, .string ⟨#[]⟩] 36)).heap[W3.heap.size]? = some (.cells #[.int .i64 rc, .int .i64 rm, .int .i64 (k : Nat), .int .i64 sh, .int .i64 0, .int .i64 0, .bool false, .string ⟨#[]⟩] 34)) := alloc_blk HR5.out _
    have HOW6 : Hid _ := owns_below HOW.out hb6
    have hbC : Below w.heap.size w (W5.alloc (.cells #[.int .i64 (v : Nat), .slice (some ⟨g, 0, none⟩) k cap, .int .i64 rc, .int .i64 rm, .int .i64 (k : Nat), .int .i64 sh, .int .i64 0, .int .i64 0, .bool false, .string ⟨#[]⟩] 36)) := (hbB.trans hb5).trans (hb6.mono (Nat.le_trans hbB.size hs5))
    go_upto_region 19 with fail
    generalize hW6 : W5.alloc (.cells #[.int .i64 (v : Nat), .slice (some ⟨g, 0, none⟩) k cap, .int .i64 rc, .int .i64 rm, .int .i64 (k : Nat), .int .i64 sh, .int .i64 0, .int .i64 0, .bool false, .string ⟨#[]⟩] 36) = W6 at *
    clear hW6
    have HB6 : Hid (Below W5.heap.size W5 W6) := hb6
    clear hb6 HOW HR5
    have q0 := blk_c HR6.out (Below.refl _ _) (i := 0) rfl
    have q1 := blk_c HR6.out (Below.refl _ _) (i := 1) rfl
    have q2 := blk_c HR6.out (Below.refl _ _) (i := 2) rfl
    have q3 := blk_c HR6.out (Below.refl _ _) (i := 3) rfl
    have q4 := blk_c HR6.out (Below.refl _ _) (i := 4) rfl
    have q5 := blk_c HR6.out (Below.refl _ _) (i := 5) rfl
    have q6 := blk_c HR6.out (Below.refl _ _) (i := 6) rfl
    have q7 := blk_c HR6.out (Below.refl _ _) (i := 7) rfl
    go_wp2_with fail
    refine (HRD.out W6 HB6.out).mono ?_
    clear HRD HB6
    rintro e W7 ⟨⟨hb7, hs7, ht7⟩, ⟨v1, nd1, hhit, g', cap', L', rfl, hown, hgr⟩ | ⟨hnone, rfl⟩⟩
    case inr => exact absurd HFF.out.2.1 ((none_nofit hnone) v nd HFF.out.1)
    obtain ⟨rfl, rfl⟩ := first_same HFF.out (hit_first hhit)
    clear hhit q0 q1 q2 q3 q4 q5 q6 q7
    have HOWb : Hid _ := hown
    have HGRb : Hid (GrantedIds (List.replicate nd.2.2 (0, true)) k (!across) L') := hgr
    have HR7 : Hid (W7.heap[W3.heap.size]? = some (.cells #[.int .i64 rc, .int .i64 rm, .int .i64 (k : Nat), .int .i64 sh, .int .i64 0, .int .i64 0, .bool false, .string ⟨#[]⟩] 34)) := ht7 _ _ _ HR6.out (.inr (.inl rfl))
    have HG7 : Hid (W7.heap[W5.heap.size]? = some (.cells #[.int .i64 (v : Nat), .slice (some ⟨g, 0, none⟩) k cap, .int .i64 rc, .int .i64 rm, .int .i64 (k : Nat), .int .i64 sh, .int .i64 0, .int .i64 0, .bool false, .string ⟨#[]⟩] 36)) := ht7 _ _ _ HGB.out (.inr (.inr rfl))
    have HOW7 : Hid _ := owns_touch HOW6.out ht7
    clear hown hgr ht7 HR6 HGB HOW6
    unfold grantVN
    have hb8 : Below W7.heap.size W7 (W7.alloc (.cells #[.int .i64 (v : Nat), .slice (some ⟨g', 0, none⟩) k cap', .int .i64 rc, .int .i64 rm, .int .i64 (k : Nat), .int .i64 sh, .int .i64 0, .int .i64 0, .bool false, .string ⟨#[]⟩] 36)) := below_alloc1 _ _
    have HGC : Hid ((W7.alloc (.cells #[.int .i64 (v : Nat), .slice (some ⟨g', 0, none⟩) k cap', .int .i64 rc, .int .i64 rm, .int .i64 (k : Nat), .int .i64 sh, .int .i64 0, .int .i64 0, .bool false, .string ⟨#[]⟩] 36)).heap[W7.heap.size]? = some (.cells #[.int .i64 (v : Nat), .slice (some ⟨g', 0, none⟩) k cap', .int .i64 rc, .int .i64 rm, .int .i64 (k : Nat), .int .i64 sh, .int .i64 0, .int .i64 0, .bool false, .string ⟨#[]⟩] 36)) := heap_alloc_new W7 _
    have HR8 : Hid ((W7.alloc (.cells #[.int .i64 (v : Nat), .slice (some ⟨g', 0, none⟩) k cap', .int .i64 rc, .int .i64 rm, .int .i64 (k : Nat), .int .i64 sh, .int .i64 0, .int .i64 0, .bool false, .string ⟨#[]⟩] 36)).heap[W3.heap.size]? = some (.cells #[.int .i64 rc, .int .i64 rm, .int .i64 (k : Nat), .int .i64 sh, .int .i64 0, .int .i64 0, .bool false, .string ⟨#[]⟩] 34)) := alloc_blk HR7.out _
    have HG8 : Hid ((W7.alloc (.cells #[.int .i64 (v : Nat), .slice (some ⟨g', 0, none⟩) k cap', .int .i64 rc, .int .i64 rm, .int .i64 (k : Nat), .int .i64 sh, .int .i64 0, .int .i64 0, .bool false, .string ⟨#[]⟩] 36)).heap[W5.heap.size]? = some (.cells #[.int .i64 (v : Nat), .slice (some ⟨g, 0, none⟩) k cap, .int .i64 rc, .int .i64 rm, .int .i64 (k : Nat), .int .i64 sh, .int .i64 0, .int .i64 0, .bool false, .string ⟨#[]⟩] 36)) := alloc_blk HG7.out _
    have HOW8 : Hid _ := owns_below HOW7.out hb8
    have HOWc : Hid _ := owns_below HOWb.out hb8
    have hbD : Below w.heap.size w (W7.alloc (.cells #[.int .i64 (v : Nat), .slice (some ⟨g', 0, none⟩) k cap', .int .i64 rc, .int .i64 rm, .int .i64 (k : Nat), .int .i64 sh, .int .i64 0, .int .i64 0, .bool false, .string ⟨#[]⟩] 36)) := (hbC.trans hb7).trans (hb8.mono (Nat.le_trans hbC.size hs7))
    go_upto_region 20 with fail
    generalize hW8 : W7.alloc (.cells #[.int .i64 (v : Nat), .slice (some ⟨g', 0, none⟩) k cap', .int .i64 rc, .int .i64 rm, .int .i64 (k : Nat), .int .i64 sh, .int .i64 0, .int .i64 0, .bool false, .string ⟨#[]⟩] 36) = W8 at *
    clear hW8 hb8 HOW7 HOWb HR7 HG7
    have q0 := blk_c HR8.out (Below.refl _ _) (i := 0) rfl
    have q1 := blk_c HR8.out (Below.refl _ _) (i := 1) rfl
    have q2 := blk_c HR8.out (Below.refl _ _) (i := 2) rfl
    have q3 := blk_c HR8.out (Below.refl _ _) (i := 3) rfl
    have q4 := blk_c HR8.out (Below.refl _ _) (i := 4) rfl
    have q5 := blk_c HR8.out (Below.refl _ _) (i := 5) rfl
    have q6 := blk_c HR8.out (Below.refl _ _) (i := 6) rfl
    have q7 := blk_c HR8.out (Below.refl _ _) (i := 7) rfl
    have t0 := blk_c HG8.out (Below.refl _ _) (i := 0) rfl
    have t1 := blk_c HG8.out (Below.refl _ _) (i := 1) rfl
    have t2 := blk_c HG8.out (Below.refl _ _) (i := 2) rfl
    have t3 := blk_c HG8.out (Below.refl _ _) (i := 3) rfl
    have t4 := blk_c HG8.out (Below.refl _ _) (i := 4) rfl
    have t5 := blk_c HG8.out (Below.refl _ _) (i := 5) rfl
    have t6 := blk_c HG8.out (Below.refl _ _) (i := 6) rfl
    have t7 := blk_c HG8.out (Below.refl _ _) (i := 7) rfl
    have t8 := blk_c HG8.out (Below.refl _ _) (i := 8) rfl
    have t9 := blk_c HG8.out (Below.refl _ _) (i := 9) rfl
    go_wp2_with fail
    refine (zzGrant_yes v g cap k nd.2.2 rc rm sh (!across) L W4.heap.size W8 (by omega) HOW8.out HGR.out).mono ?_
    rintro e W9 ⟨rfl, hb9⟩
    clear q0 q1 q2 q3 q4 q5 q6 q7 t0 t1 t2 t3 t4 t5 t6 t7 t8 t9
    have HR9 : Hid _ := (hb9.block _ (heap_lt HR8.out)).trans HR8.out
    have HG9 : Hid _ := (hb9.block _ (heap_lt HGC.out)).trans HGC.out
    have HOW9 : Hid _ := owns_below HOWc.out hb9
    have HBE : Hid (Below w.heap.size w W9) := hbD.trans (hb9.mono hbD.size)
    have q0 := blk_c HR9.out (Below.refl _ _) (i := 0) rfl
    have q1 := blk_c HR9.out (Below.refl _ _) (i := 1) rfl
    have q2 := blk_c HR9.out (Below.refl _ _) (i := 2) rfl
    have q3 := blk_c HR9.out (Below.refl _ _) (i := 3) rfl
    have q4 := blk_c HR9.out (Below.refl _ _) (i := 4) rfl
    have q5 := blk_c HR9.out (Below.refl _ _) (i := 5) rfl
    have q6 := blk_c HR9.out (Below.refl _ _) (i := 6) rfl
    have q7 := blk_c HR9.out (Below.refl _ _) (i := 7) rfl
    have t0 := blk_c HG9.out (Below.refl _ _) (i := 0) rfl
    have t1 := blk_c HG9.out (Below.refl _ _) (i := 1) rfl
    have t2 := blk_c HG9.out (Below.refl _ _) (i := 2) rfl
    have t3 := blk_c HG9.out (Below.refl _ _) (i := 3) rfl
    have t4 := blk_c HG9.out (Below.refl _ _) (i := 4) rfl
    have t5 := blk_c HG9.out (Below.refl _ _) (i := 5) rfl
    have t6 := blk_c HG9.out (Below.refl _ _) (i := 6) rfl
    have t7 := blk_c HG9.out (Below.refl _ _) (i := 7) rfl
    have t8 := blk_c HG9.out (Below.refl _ _) (i := 8) rfl
    have t9 := blk_c HG9.out (Below.refl _ _) (i := 9) rfl
    go_wp2_with fail
    refine (zzGrant_yes v g' cap' k nd.2.2 rc rm sh (!across) L' _ W9 (by omega) HOW9.out HGRb.out).mono ?_
    rintro e W10 ⟨rfl, hb10⟩
    have HBF : Hid (Below w.heap.size w W10) := HBE.out.trans (hb10.mono HBE.out.size)
    clear hb10
    go_wp2_with fail
    go_ret
    exact ⟨rfl, HBF.out⟩
  · have HNO : Hid (NoFit (nsOf cs ms gs) rc rm k) := hno
    clear hno
    have q0 := blk_c HRB.out (Below.refl _ _) (i := 0) rfl
    have q1 := blk_c HRB.out (Below.refl _ _) (i := 1) rfl
    have q2 := blk_c HRB.out (Below.refl _ _) (i := 2) rfl
    have q3 := blk_c HRB.out (Below.refl _ _) (i := 3) rfl
    have q4 := blk_c HRB.out (Below.refl _ _) (i := 4) rfl
    have q5 := blk_c HRB.out (Below.refl _ _) (i := 5) rfl
    have q6 := blk_c HRB.out (Below.refl _ _) (i := 6) rfl
    have q7 := blk_c HRB.out (Below.refl _ _) (i := 7) rfl
    go_wp2_with fail
    refine HFIRST.out.mono ?_
    clear HFIRST
    rintro e W5 ⟨⟨hb5, hs5, ht5⟩, ⟨v1, nd1, hhit, g, cap, L, rfl, hown, hgr⟩ | ⟨hnone, rfl⟩, hrd⟩
    case inl => exact absurd (hit_first hhit).2.1 (HNO.out v1 nd1 (hit_first hhit).1)
    clear hnone q0 q1 q2 q3 q4 q5 q6 q7
    have HRD : Hid (Ready w.heap.size W5 l (nsOf cs ms gs) (vsOf (nsOf cs ms gs) (nsOf cs ms gs).length) rc rm k sh across) := hrd
    have HR5 : Hid (W5.heap[W3.heap.size]? = some (.cells #[.int .i64 rc, .int .i64 rm, .int .i64 (k : Nat), .int .i64 sh, .int .i64 0, .int .i64 0, .bool false, .string ⟨#[]⟩] 34)) := ht5 _ _ _ HRB.out (.inr (.inl rfl))
    clear hrd ht5
    unfold grantVN
    have hb6 : Below W5.heap.size W5 (W5.alloc (.cells #[.int .i64 0, .slice none 0 0, .int .i64 0, .int .i64 0, .int .i64 0, .int .i64 0, .int .i64 0, .int .i64 0, .bool false, .string ⟨#[]⟩] 36)) := below_alloc1 _ _
    have HGB : Hid ((W5.alloc (.cells #[.int .i64 0, .slice none 0 0, .int .i64 0, .int .i64 0, .int .i64 0, .int .i64 0, .int .i64 0, .int .i64 0, .bool false, .string ⟨#[]⟩] 36)).heap[W5.heap.size]? = some (.cells #[.int .i64 0, .slice none 0 0, .int .i64 0, .int .i64 0, .int .i64 0, .int .i64 0, .int .i64 0, .int .i64 0, .bool false, .string ⟨#[]⟩] 36)) := heap_alloc_new W5 _
    have HR6 : Hid ((W5.alloc (.cells #[.int .i64 0, .slice none 0 0, .int .i64 0, .int .i64 0, .int .i64 0, .int .i64 0, .int .i64 0, .int .i64 0, .bool false, .string ⟨#[]⟩] 36)).heap[W3.heap.size]? = some (.cells #[.int .i64 rc, .int .i64 rm, .int .i64 (k : Nat), .int .i64 sh, .int .i64 0, .int .i64 0, .bool false, .string ⟨#[]⟩] 34)) := alloc_blk HR5.out _
    have hbC : Below w.heap.size w (W5.alloc (.cells #[.int .i64 0, .slice none 0 0, .int .i64 0, .int .i64 0, .int .i64 0, .int .i64 0, .int .i64 0, .int .i64 0, .bool false, .string ⟨#[]⟩] 36)) := (hbB.trans hb5).trans (hb6.mono (Nat.le_trans hbB.size hs5))
    go_upto_region 19 with fail
    generalize hW6 : W5.alloc (.cells #[.int .i64 0, .slice none 0 0, .int .i64 0, .int .i64 0, .int .i64 0, .int .i64 0, .int .i64 0, .int .i64 0, .bool false, .string ⟨#[]⟩] 36) = W6 at *
    clear hW6
    have HB6 : Hid (Below W5.heap.size W5 W6) := hb6
    clear hb6 HR5
    have q0 := blk_c HR6.out (Below.refl _ _) (i := 0) rfl
    have q1 := blk_c HR6.out (Below.refl _ _) (i := 1) rfl
    have q2 := blk_c HR6.out (Below.refl _ _) (i := 2) rfl
    have q3 := blk_c HR6.out (Below.refl _ _) (i := 3) rfl
    have q4 := blk_c HR6.out (Below.refl _ _) (i := 4) rfl
    have q5 := blk_c HR6.out (Below.refl _ _) (i := 5) rfl
    have q6 := blk_c HR6.out (Below.refl _ _) (i := 6) rfl
    have q7 := blk_c HR6.out (Below.refl _ _) (i := 7) rfl
    go_wp2_with fail
    refine (HRD.out W6 HB6.out).mono ?_
    clear HRD HB6
    rintro e W7 ⟨⟨hb7, hs7, ht7⟩, ⟨v1, nd1, hhit, g', cap', L', rfl, hown, hgr⟩ | ⟨hnone, rfl⟩⟩
    case inl => exact absurd (hit_first hhit).2.1 (HNO.out v1 nd1 (hit_first hhit).1)
    clear hnone q0 q1 q2 q3 q4 q5 q6 q7
    have HR7 : Hid (W7.heap[W3.heap.size]? = some (.cells #[.int .i64 rc, .int .i64 rm, .int .i64 (k : Nat), .int .i64 sh, .int .i64 0, .int .i64 0, .bool false, .string ⟨#[]⟩] 34)) := ht7 _ _ _ HR6.out (.inr (.inl rfl))
    have HG7 : Hid (W7.heap[W5.heap.size]? = some (.cells #[.int .i64 0, .slice none 0 0, .int .i64 0, .int .i64 0, .int .i64 0, .int .i64 0, .int .i64 0, .int .i64 0, .bool false, .string ⟨#[]⟩] 36)) := ht7 _ _ _ HGB.out (.inr (.inr rfl))
    clear ht7 HR6 HGB
    unfold grantVN
    have hb8 : Below W7.heap.size W7 (W7.alloc (.cells #[.int .i64 0, .slice none 0 0, .int .i64 0, .int .i64 0, .int .i64 0, .int .i64 0, .int .i64 0, .int .i64 0, .bool false, .string ⟨#[]⟩] 36)) := below_alloc1 _ _
    have HGC : Hid ((W7.alloc (.cells #[.int .i64 0, .slice none 0 0, .int .i64 0, .int .i64 0, .int .i64 0, .int .i64 0, .int .i64 0, .int .i64 0, .bool false, .string ⟨#[]⟩] 36)).heap[W7.heap.size]? = some (.cells #[.int .i64 0, .slice none 0 0, .int .i64 0, .int .i64 0, .int .i64 0, .int .i64 0, .int .i64 0, .int .i64 0, .bool false, .string ⟨#[]⟩] 36)) := heap_alloc_new W7 _
    have HR8 : Hid ((W7.alloc (.cells #[.int .i64 0, .slice none 0 0, .int .i64 0, .int .i64 0, .int .i64 0, .int .i64 0, .int .i64 0, .int .i64 0, .bool false, .string ⟨#[]⟩] 36)).heap[W3.heap.size]? = some (.cells #[.int .i64 rc, .int .i64 rm, .int .i64 (k : Nat), .int .i64 sh, .int .i64 0, .int .i64 0, .bool false, .string ⟨#[]⟩] 34)) := alloc_blk HR7.out _
    have HG8 : Hid ((W7.alloc (.cells #[.int .i64 0, .slice none 0 0, .int .i64 0, .int .i64 0, .int .i64 0, .int .i64 0, .int .i64 0, .int .i64 0, .bool false, .string ⟨#[]⟩] 36)).heap[W5.heap.size]? = some (.cells #[.int .i64 0, .slice none 0 0, .int .i64 0, .int .i64 0, .int .i64 0, .int .i64 0, .int .i64 0, .int .i64 0, .bool false, .string ⟨#[]⟩] 36)) := alloc_blk HG7.out _
    have hbD : Below w.heap.size w (W7.alloc (.cells #[.int .i64 0, .slice none 0 0, .int .i64 0, .int .i64 0, .int .i64 0, .int .i64 0, .int .i64 0, .int .i64 0, .bool false, .string ⟨#[]⟩] 36)) := (hbC.trans hb7).trans (hb8.mono (Nat.le_trans hbC.size hs7))
    go_upto_region 20 with fail
    generalize hW8 : W7.alloc (.cells #[.int .i64 0, .slice none 0 0, .int .i64 0, .int .i64 0, .int .i64 0, .int .i64 0, .int .i64 0, .int .i64 0, .bool false, .string ⟨#[]⟩] 36) = W8 at *
    clear hW8 hb8 HR7 HG7
    have q0 := blk_c HR8.out (Below.refl _ _) (i := 0) rfl
    have q1 := blk_c HR8.out (Below.refl _ _) (i := 1) rfl
    have q2 := blk_c HR8.out (Below.refl _ _) (i := 2) rfl
    have q3 := blk_c HR8.out (Below.refl _ _) (i := 3) rfl
    have q4 := blk_c HR8.out (Below.refl _ _) (i := 4) rfl
    have q5 := blk_c HR8.out (Below.refl _ _) (i := 5) rfl
    have q6 := blk_c HR8.out (Below.refl _ _) (i := 6) rfl
    have q7 := blk_c HR8.out (Below.refl _ _) (i := 7) rfl
    have t0 := blk_c HG8.out (Below.refl _ _) (i := 0) rfl
    have t1 := blk_c HG8.out (Below.refl _ _) (i := 1) rfl
    have t2 := blk_c HG8.out (Below.refl _ _) (i := 2) rfl
    have t3 := blk_c HG8.out (Below.refl _ _) (i := 3) rfl
    have t4 := blk_c HG8.out (Below.refl _ _) (i := 4) rfl
    have t5 := blk_c HG8.out (Below.refl _ _) (i := 5) rfl
    have t6 := blk_c HG8.out (Below.refl _ _) (i := 6) rfl
    have t7 := blk_c HG8.out (Below.refl _ _) (i := 7) rfl
    have t8 := blk_c HG8.out (Below.refl _ _) (i := 8) rfl
    have t9 := blk_c HG8.out (Below.refl _ _) (i := 9) rfl
    go_wp2_with fail
    refine (zzGrant_no rc rm k sh k 0 W8).mono ?_
    rintro e W9 ⟨rfl, hb9⟩
    clear q0 q1 q2 q3 q4 q5 q6 q7 t0 t1 t2 t3 t4 t5 t6 t7 t8 t9
    have HR9 : Hid _ := (hb9.block _ (heap_lt HR8.out)).trans HR8.out
    have HG9 : Hid _ := (hb9.block _ (heap_lt HGC.out)).trans HGC.out
    have HBE : Hid (Below w.heap.size w W9) := hbD.trans (hb9.mono hbD.size)
    have q0 := blk_c HR9.out (Below.refl _ _) (i := 0) rfl
    have q1 := blk_c HR9.out (Below.refl _ _) (i := 1) rfl
    have q2 := blk_c HR9.out (Below.refl _ _) (i := 2) rfl
    have q3 := blk_c HR9.out (Below.refl _ _) (i := 3) rfl
    have q4 := blk_c HR9.out (Below.refl _ _) (i := 4) rfl
    have q5 := blk_c HR9.out (Below.refl _ _) (i := 5) rfl
    have q6 := blk_c HR9.out (Below.refl _ _) (i := 6) rfl
    have q7 := blk_c HR9.out (Below.refl _ _) (i := 7) rfl
    have t0 := blk_c HG9.out (Below.refl _ _) (i := 0) rfl
    have t1 := blk_c HG9.out (Below.refl _ _) (i := 1) rfl
    have t2 := blk_c HG9.out (Below.refl _ _) (i := 2) rfl
    have t3 := blk_c HG9.out (Below.refl _ _) (i := 3) rfl
    have t4 := blk_c HG9.out (Below.refl _ _) (i := 4) rfl
    have t5 := blk_c HG9.out (Below.refl _ _) (i := 5) rfl
    have t6 := blk_c HG9.out (Below.refl _ _) (i := 6) rfl
    have t7 := blk_c HG9.out (Below.refl _ _) (i := 7) rfl
    have t8 := blk_c HG9.out (Below.refl _ _) (i := 8) rfl
    have t9 := blk_c HG9.out (Below.refl _ _) (i := 9) rfl
    go_wp2_with fail
    refine (zzGrant_no rc rm k sh k 0 W9).mono ?_
    rintro e W10 ⟨rfl, hb10⟩
    have HBF : Hid (Below w.heap.size w W10) := HBE.out.trans (hb10.mono HBE.out.size)
    clear hb10
    go_wp2_with fail
    go_ret
    exact ⟨rfl, HBF.out⟩

end Go.Proofs.Qxb6612460aGreatFmt
