/-
  zzNodes and zzFirstFitGrant.
-/
import Derived.Test.Qxb6612460aGreatFmtLawNS
import Derived.Laws.StructEq
namespace Go.Proofs.Qxb6612460aGreatFmt
open Go.RowKit Go.Sort
attribute [local go_sem] Option.isNone_none Option.isNone_some
attribute [local go_sem] sUpon mUpon
attribute [local go_sem] Mix.isVal Mix.makes

theorem Tryz.info48 : (Tryz.prog.info? 48).map (fun i => (i.zero, i.size, i.bytes)) = some (some (.agg #[.string ⟨#[]⟩, .int .i64 0, .int .i64 0, .int .i64 0, .string ⟨#[]⟩, .slice none 0 0]), 6, 80) := by kernel_rfl
def nodeCells : List Nd → List Value
  | [] => []
  | d :: r => nodeC d ++ nodeCells r
theorem nodeCells_length : ∀ ds : List Nd, (nodeCells ds).length = ds.length * 6
  | [] => rfl
  | d :: r => by simp [nodeCells, nodeC, nodeCells_length r]; omega
theorem nodeCells_at : ∀ (ds : List Nd) (i : Nat) (d : Nd), ds[i]? = some d → ∀ (k : Nat) (x : Value), (nodeC d)[k]? = some x → (nodeCells ds)[i * 6 + k]? = some x
  | [], i, d, h, _, _, _ => by simp at h
  | y :: r, 0, d, h, k, x, hx => by
    simp only [List.getElem?_cons_zero, Option.some.injEq] at h
    subst h
    have hk := (List.getElem?_eq_some_iff.1 hx).1
    rw [Nat.zero_mul, Nat.zero_add]
    simp only [nodeCells]
    rw [List.getElem?_append_left hk]
    exact hx
  | y :: r, i + 1, d, h, k, x, hx => by
    have := nodeCells_at r i d (by simpa using h) k x hx
    have e1 : (i + 1) * 6 + k = (i * 6 + k) + 6 := by omega
    rw [e1]
    simpa [nodeCells, nodeC] using this
theorem nodeCells_set : ∀ (l : List Nd) (j : Nat) (d : Nd), j < l.length →
    ((((((nodeCells l).set (j * 6) (.string ⟨#[]⟩)).set (j * 6 + 1) (.int .i64 d.1)).set (j * 6 + 2) (.int .i64 d.2.1)).set (j * 6 + 3) (.int .i64 (d.2.2 : Nat))).set (j * 6 + 4) (.string ⟨#[]⟩)).set (j * 6 + 5) (.slice none 0 0) = nodeCells (l.set j d)
  | [], j, d, h => by simp at h
  | x :: r, 0, d, _ => by simp [nodeCells, nodeC]
  | x :: r, j + 1, d, h => by
    have ih := nodeCells_set r j d (by simpa using h)
    have e0 : (j + 1) * 6 = j * 6 + 6 := by omega
    rw [e0]
    have e1 : j * 6 + 6 + 1 = (j * 6 + 1) + 6 := by omega
    have e2 : j * 6 + 6 + 2 = (j * 6 + 2) + 6 := by omega
    have e3 : j * 6 + 6 + 3 = (j * 6 + 3) + 6 := by omega
    have e4 : j * 6 + 6 + 4 = (j * 6 + 4) + 6 := by omega
    have e5 : j * 6 + 6 + 5 = (j * 6 + 5) + 6 := by omega
    rw [e1, e2, e3, e4, e5]
    simp only [nodeCells, nodeC, List.cons_append, List.nil_append, List.set_cons_succ, ih]
theorem nodeCells_snoc : ∀ (l : List Nd) (d : Nd), nodeCells (l ++ [d]) = nodeCells l ++ nodeC d
  | [], d => by simp [nodeCells]
  | x :: r, d => by simp [nodeCells, nodeCells_snoc r d]
theorem madeNode : ∀ n : Nat, (madeCells (Value.agg #[.string ⟨#[]⟩, .int .i64 0, .int .i64 0, .int .i64 0, .string ⟨#[]⟩, .slice none 0 0]).cells (n * 6)).toList = nodeCells (List.replicate n (0, 0, 0))
  | 0 => by simp [madeCells, nodeCells]
  | n + 1 => by
    have ih := madeNode n
    have e : (n + 1) * 6 = n * 6 + 1 + 1 + 1 + 1 + 1 + 1 := by omega
    have m0 : n * 6 % 6 = 0 := by omega
    have m1 : (n * 6 + 1) % 6 = 1 := by omega
    have m2 : (n * 6 + 1 + 1) % 6 = 2 := by omega
    have m3 : (n * 6 + 1 + 1 + 1) % 6 = 3 := by omega
    have m4 : (n * 6 + 1 + 1 + 1 + 1) % 6 = 4 := by omega
    have m5 : (n * 6 + 1 + 1 + 1 + 1 + 1) % 6 = 5 := by omega
    simp only [madeCells, Array.toList_map, Array.toList_range] at ih ⊢
    rw [e, List.range_succ, List.range_succ, List.range_succ, List.range_succ, List.range_succ, List.range_succ, List.map_append, List.map_append, List.map_append, List.map_append, List.map_append, List.map_append, ih, List.replicate_succ', nodeCells_snoc]
    simp [Value.cells, nodeC, m0, m1, m2, m3, m4, m5]

def NodesPost (ns : List Nd) (w : World) (e : Ending) (w' : World) : Prop := e = .returned (.slice (some ⟨w.heap.size, 0, none⟩) ns.length ns.length) ∧ NodesIn w' w.heap.size ns ∧ Below w.heap.size w w' ∧ w.heap.size < w'.heap.size

set_option maxRecDepth 100000 in
set_option maxHeartbeats 4000000 in
theorem zzNodes (a1 a2 a3 : Option Addr) (c1 c2 c3 : Nat) (cs ms gs : List Int) (n : Nat) (w : World) (hC : RowAt w a1 (cs.map (Value.int .i64))) (hM : RowAt w a2 (ms.map (Value.int .i64))) (hG : RowAt w a3 (gs.map (Value.int .i64))) (hn : n = (nsOf cs ms gs).length) (hn2 : n ≤ 4096) (hgd : GoodTo cs ms gs n) :
    Calls Tryz.prog 10 #[.slice a1 cs.length c1, .slice a2 ms.length c2, .slice a3 gs.length c3, .int .i64 (n : Nat)] w (NodesPost (nsOf cs ms gs) w) := by
  have HC : Hid (RowAt w a1 (cs.map (Value.int .i64))) := hC
  have HM : Hid (RowAt w a2 (ms.map (Value.int .i64))) := hM
  have HG : Hid (RowAt w a3 (gs.map (Value.int .i64))) := hG
  have HGD : Hid (GoodTo cs ms gs n) := hgd
  have HNN : Hid (n = (nsOf cs ms gs).length) := hn
  unfold NodesPost
  rw [← hn]
  clear hC hM hG hgd hn
  obtain ⟨i48, hi48, hz48, hs48, hb48⟩ := info_parts Tryz.info48
  go_enter Tryz.func10, Tryz.ntmps10
  go_wp2_with (at_make; go_must (refine wpList_make_full _ rfl _ _ 29 rfl w.heap.size 48 i48 _ 6 Tryz.underlying29 hi48 hz48 hs48 .i64 .i64 _ _ n rfl rfl rfl rfl (by rw [hb48]; omega) (by unfold maxLen; omega) (Nat.le_refl _) ?_); intro w1 hown1 hgrow1)
  have O1 : Hid (w1.ownsRow w.heap.size 48 6 (.slice (some ⟨w.heap.size, 0, none⟩) n n) n (nodeCells (List.replicate n (0, 0, 0)))) := by
    show w1.ownsRow _ _ _ _ _ _
    rw [← madeNode]
    exact hown1
  have B1 : Hid (Below w.heap.size w w1) := (Below.refl _ _).grown hgrow1 (Nat.le_refl _) (fun k h => by cases h)
  clear hown1 hgrow1
  go_loopw [10] (fun iv wr => ∃ (j : Nat) (l : List Nd), j ≤ n ∧ iv = .int .i64 j ∧ Hid (l.length = n) ∧ Hid (∀ i, i < j → l[i]? = (nsOf cs ms gs)[i]?) ∧ wr.ownsRow w.heap.size 48 6 (.slice (some ⟨w.heap.size, 0, none⟩) n n) n (nodeCells l) ∧ Below w.heap.size w wr) (fun iv _ => n - (intOf iv).toNat)
  case atStart => exact ⟨0, _, Nat.zero_le _, rfl, by show _ = _; simp, fun i hi => by omega, O1.out, B1.out⟩
  case round =>
    clear O1 B1
    obtain ⟨j, l, hj, rfl, hll, hli, hown, hbel⟩ := hrel
    by_cases hjl : j < n
    · obtain ⟨l1, l2, l3, hat⟩ := nsOf_at (cs := cs) (ms := ms) (gs := gs) (i := j) (by rw [← HNN.out]; exact hjl)
      obtain ⟨b1, o1, ha, x1⟩ := row_i64 HC.out j l1
      cases ha
      obtain ⟨b2, o2, ha, x2⟩ := row_i64 HM.out j l2
      cases ha
      obtain ⟨b3, o3, ha, x3⟩ := row_i64 HG.out j l3
      cases ha
      have hz : 0 ≤ gs[j] := by obtain ⟨_, _, _, _, _, h, _⟩ := HGD.out j hjl; exact h
      have HAT : Hid ((nsOf cs ms gs)[j]? = some (cs[j], ms[j], gs[j].toNat)) := hat
      clear hat
      generalize cs[j] = x at *
      generalize ms[j] = y at *
      generalize gs[j] = z at *
      obtain ⟨zn, rfl⟩ := Int.eq_ofNat_of_zero_le hz
      have HAT' : Hid ((nsOf cs ms gs)[j]? = some (x, y, zn)) := HAT.out
      have r1 := cell_regrown ((hbel.cell (cell_lt x1)).trans x1)
      have r2 := cell_regrown ((hbel.cell (cell_lt x2)).trans x2)
      have r3 := cell_regrown ((hbel.cell (cell_lt x3)).trans x3)
      clear x1 x2 x3 HAT
      go_wp2_with fail
      refine wp_region_quiet_list 15 (by kernel_rfl) (by kernel_rfl) (by kernel_rfl) ?_
      simp only [List.take_succ_cons, List.take_zero, List.drop_succ_cons, List.drop_zero]
      repeat (go_big_quiet_step (fail))
      refine wpQuiet_nil ?_
      intro X hbX
      clear r1 r2 r3
      have hoX := owns_below hown hbX
      have lX : (nodeCells l).length = n * 6 := by rw [nodeCells_length, hll.out]
      have c0 := hoX.cellAt (j * 6) (by omega)
      have c1 := hoX.cellAt (j * 6 + 1) (by omega)
      have c2 := hoX.cellAt (j * 6 + 2) (by omega)
      have c3 := hoX.cellAt (j * 6 + 3) (by omega)
      have c4 := hoX.cellAt (j * 6 + 4) (by omega)
      have c5 := hoX.cellAt (j * 6 + 5) (by omega)
      rw [List.getElem?_eq_getElem (by omega)] at c0 c1 c2 c3 c4 c5
      have f0 := hoX.frozenAt (j * 6)
      have f1 := hoX.frozenAt (j * 6 + 1)
      have f2 := hoX.frozenAt (j * 6 + 2)
      have f3 := hoX.frozenAt (j * 6 + 3)
      have f4 := hoX.frozenAt (j * 6 + 4)
      have f5 := hoX.frozenAt (j * 6 + 5)
      have hoN := ((((((hoX.stored (j * 6) (.string ⟨#[]⟩)).1.stored (j * 6 + 1) (.int .i64 x)).1.stored (j * 6 + 2) (.int .i64 y)).1.stored (j * 6 + 3) (.int .i64 (zn : Nat))).1.stored (j * 6 + 4) (.string ⟨#[]⟩)).1.stored (j * 6 + 5) (.slice none 0 0)).1
      rw [nodeCells_set l j (x, y, zn) (by rw [hll.out]; exact hjl)] at hoN
      have HON : Hid _ := hoN
      have HBN : Hid (Below w.heap.size w ((((((X.setCell ⟨w.heap.size, j * 6, none⟩ (.string ⟨#[]⟩)).setCell ⟨w.heap.size, j * 6 + 1, none⟩ (.int .i64 x)).setCell ⟨w.heap.size, j * 6 + 2, none⟩ (.int .i64 y)).setCell ⟨w.heap.size, j * 6 + 3, none⟩ (.int .i64 (zn : Nat))).setCell ⟨w.heap.size, j * 6 + 4, none⟩ (.string ⟨#[]⟩)).setCell ⟨w.heap.size, j * 6 + 5, none⟩ (.slice none 0 0))) := by
        show Below _ _ _
        iterate 6 refine RowKit.Below.setCell ?_ (by simp only; omega) _
        exact hbel.trans (hbX.mono hbel.size)
      have HLN : Hid ((l.set j (x, y, zn)).length = n) := by show _ = _; rw [List.length_set]; exact hll.out
      have HLI : Hid (∀ i, i < j + 1 → (l.set j (x, y, zn))[i]? = (nsOf cs ms gs)[i]?) := fun i hi => by
        rcases Nat.lt_or_ge i j with h | h
        · rw [List.getElem?_set_ne (by omega)]; exact hli.out i h
        · obtain rfl : i = j := by omega
          rw [List.getElem?_set_self (by rw [hll.out]; exact hjl)]; exact HAT'.out.symm
      clear hoN hoX hown
      go_wp2_with fail
      go_roundw
      case rel => first | exact ⟨j + 1, _, by omega, by go_num, HLN.out, HLI.out, HON.out, HBN.out⟩ | ((repeat apply Exists.intro); exact ⟨⟨j + 1, _, by omega, by go_num, HLN.out, HLI.out, HON.out, HBN.out⟩, rfl⟩)
      case measure => simp [intOf]; omega
    · obtain rfl : n = j := by omega
      have HNI : Hid (NodesIn wr w.heap.size (nsOf cs ms gs)) := fun i nd hi k x hx => by
        have hil : i < n := by have := (List.getElem?_eq_some_iff.1 hi).1; rw [HNN.out]; exact this
        have h1 : l[i]? = some nd := (hli.out i hil).trans hi
        have h2 := nodeCells_at l i nd h1 k x hx
        have hk : k < 6 := by have := (List.getElem?_eq_some_iff.1 hx).1; simpa [nodeC] using this
        rw [hown.cellAt (i * 6 + k) (by omega)]
        exact h2
      have hlt := ownsRow_lt hown w.heap.size rfl
      have HBE : Hid _ := hbel
      clear hown hbel
      go_wp2_with fail
      go_ret
      exact ⟨rfl, HNI.out, HBE.out, hlt⟩

theorem neq34N (rc rm k sh : Int) (w : World) : (binOp .neq 34 (.agg #[.int .i64 rc, .int .i64 rm, .int .i64 k, .int .i64 sh, .int .i64 0, .int .i64 0, .bool false, .string ⟨#[]⟩]) (.agg #[.int .i64 rc, .int .i64 rm, .int .i64 k, .int .i64 sh, .int .i64 0, .int .i64 0, .bool false, .string ⟨#[]⟩])).run Tryz.prog w = .ok (.bool false) w := by
  rw [run_neq_struct, run_equalIn_agg w 9999 34 _ _ (by kernel_rfl) (by kernel_rfl)]
  simp [go_sem]

set_option maxRecDepth 100000 in
set_option maxHeartbeats 4000000 in
theorem zzGrant_no (rc rm k sh k1 gn1 : Int) (w : World) : Calls Tryz.prog 13 #[grantVN 0 (.slice none 0 0) 0 0 0 0, .int .i64 0, .bool false, .int .i64 (-1), .int .i64 k1, .int .i64 gn1, reqV rc rm k sh] w fun e w' => e = .returned (.bool true) ∧ Below w.heap.size w w' := by
  unfold grantVN reqV
  go_enter Tryz.func13, Tryz.ntmps13
  have hb0 : Below w.heap.size w ((w.alloc (.cells #[.int .i64 0, .slice none 0 0, .int .i64 0, .int .i64 0, .int .i64 0, .int .i64 0, .int .i64 0, .int .i64 0, .bool false, .string ⟨#[]⟩] 36)).alloc (.cells #[.int .i64 rc, .int .i64 rm, .int .i64 k, .int .i64 sh, .int .i64 0, .int .i64 0, .bool false, .string ⟨#[]⟩] 34)) := (below_alloc1 _ _).alloc (by simp) _
  go_wp2_with fail
  refine (zzRefused_yes _).mono ?_
  rintro e w' ⟨rfl, hb1⟩
  have HB : Hid (Below w.heap.size w w') := hb0.trans (hb1.mono hb0.size)
  clear hb1
  go_wp2_with fail
  go_ret
  exact ⟨rfl, HB.out⟩

set_option maxRecDepth 100000 in
set_option maxHeartbeats 4000000 in
theorem zzGrant_yes (v g cap k gn : Nat) (rc rm sh : Int) (one : Bool) (L : List Nat) (B : Nat) (w : World) (hk : k ≤ 65536) (hO : w.ownsRow B 3 1 (.slice (some ⟨g, 0, none⟩) k cap) k (L.map natV)) (hL : GrantedIds (List.replicate gn (0, true)) k one L) :
    Calls Tryz.prog 13 #[grantVN v (.slice (some ⟨g, 0, none⟩) k cap) rc rm k sh, .int .i64 0, .bool true, .int .i64 (v : Nat), .int .i64 (k : Nat), .int .i64 (gn : Nat), reqV rc rm k sh] w fun e w' => e = .returned (.bool true) ∧ Below w.heap.size w w' := by
  unfold grantVN reqV
  have HO : Hid _ := hO
  have HL : Hid (GrantedIds (List.replicate gn (0, true)) k one L) := hL
  clear hO hL
  go_enter Tryz.func13, Tryz.ntmps13
  have hb0 : Below w.heap.size w ((w.alloc (.cells #[.int .i64 (v : Nat), .slice (some ⟨g, 0, none⟩) k cap, .int .i64 rc, .int .i64 rm, .int .i64 k, .int .i64 sh, .int .i64 0, .int .i64 0, .bool false, .string ⟨#[]⟩] 36)).alloc (.cells #[.int .i64 rc, .int .i64 rm, .int .i64 k, .int .i64 sh, .int .i64 0, .int .i64 0, .bool false, .string ⟨#[]⟩] 34)) := (below_alloc1 _ _).alloc (by simp) _
  have HGB : Hid (((w.alloc (.cells #[.int .i64 (v : Nat), .slice (some ⟨g, 0, none⟩) k cap, .int .i64 rc, .int .i64 rm, .int .i64 k, .int .i64 sh, .int .i64 0, .int .i64 0, .bool false, .string ⟨#[]⟩] 36)).alloc (.cells #[.int .i64 rc, .int .i64 rm, .int .i64 k, .int .i64 sh, .int .i64 0, .int .i64 0, .bool false, .string ⟨#[]⟩] 34)).heap[w.heap.size]? = some (.cells #[.int .i64 (v : Nat), .slice (some ⟨g, 0, none⟩) k cap, .int .i64 rc, .int .i64 rm, .int .i64 k, .int .i64 sh, .int .i64 0, .int .i64 0, .bool false, .string ⟨#[]⟩] 36)) := by
    show _ = _
    rw [heap_alloc_old _ _ (by simp), heap_alloc_new]
  have HRB : Hid (((w.alloc (.cells #[.int .i64 (v : Nat), .slice (some ⟨g, 0, none⟩) k cap, .int .i64 rc, .int .i64 rm, .int .i64 k, .int .i64 sh, .int .i64 0, .int .i64 0, .bool false, .string ⟨#[]⟩] 36)).alloc (.cells #[.int .i64 rc, .int .i64 rm, .int .i64 k, .int .i64 sh, .int .i64 0, .int .i64 0, .bool false, .string ⟨#[]⟩] 34)).heap[w.heap.size + 1]? = some (.cells #[.int .i64 rc, .int .i64 rm, .int .i64 k, .int .i64 sh, .int .i64 0, .int .i64 0, .bool false, .string ⟨#[]⟩] 34)) := heap_alloc2_new w _ _
  go_upto_region 1 with fail
  generalize hW : (w.alloc (.cells #[.int .i64 (v : Nat), .slice (some ⟨g, 0, none⟩) k cap, .int .i64 rc, .int .i64 rm, .int .i64 k, .int .i64 sh, .int .i64 0, .int .i64 0, .bool false, .string ⟨#[]⟩] 36)).alloc (.cells #[.int .i64 rc, .int .i64 rm, .int .i64 k, .int .i64 sh, .int .i64 0, .int .i64 0, .bool false, .string ⟨#[]⟩] 34) = W at *
  clear hW
  have c0 := blk_c HGB.out (Below.refl _ _) (i := 0) rfl
  have c1 := blk_c HGB.out (Below.refl _ _) (i := 1) rfl
  have c2 := blk_c HGB.out (Below.refl _ _) (i := 2) rfl
  have c3 := blk_c HGB.out (Below.refl _ _) (i := 3) rfl
  have c4 := blk_c HGB.out (Below.refl _ _) (i := 4) rfl
  have c5 := blk_c HGB.out (Below.refl _ _) (i := 5) rfl
  have c6 := blk_c HGB.out (Below.refl _ _) (i := 6) rfl
  have c7 := blk_c HGB.out (Below.refl _ _) (i := 7) rfl
  have c8 := blk_c HGB.out (Below.refl _ _) (i := 8) rfl
  have c9 := blk_c HGB.out (Below.refl _ _) (i := 9) rfl
  have q0 := blk_c HRB.out (Below.refl _ _) (i := 0) rfl
  have q1 := blk_c HRB.out (Below.refl _ _) (i := 1) rfl
  have q2 := blk_c HRB.out (Below.refl _ _) (i := 2) rfl
  have q3 := blk_c HRB.out (Below.refl _ _) (i := 3) rfl
  have q4 := blk_c HRB.out (Below.refl _ _) (i := 4) rfl
  have q5 := blk_c HRB.out (Below.refl _ _) (i := 5) rfl
  have q6 := blk_c HRB.out (Below.refl _ _) (i := 6) rfl
  have q7 := blk_c HRB.out (Below.refl _ _) (i := 7) rfl
  have q34 := neq34N rc rm k sh
  have dkk : ((k : Int) != (k : Int)) = false := by simp
  have dvv : ((v : Int) != (v : Int)) = false := by simp
  have dv0 : decide ((v : Int) < 0) = false := by simp
  go_wp2_with fail
  clear c0 c2 c3 c4 c5 c6 c7 c8 c9 q0 q1 q2 q3 q4 q5 q6 q7
  go_loop [15] (fun iv => ∃ kk : Nat, kk ≤ k ∧ iv = .int .i64 kk) (fun iv => k - (intOf iv).toNat)
  case atStart => exact ⟨0, Nat.zero_le _, rfl⟩
  case round =>
    obtain ⟨kk, hkk, rfl⟩ := hrel
    by_cases hlt : kk < k
    · have hLl : L.length = k := HL.out.1
      have hOq := owns_below HO.out hb0
      have ck := own_cell hOq kk (by omega)
      have hLk : L[kk]? = some L[kk] := List.getElem?_eq_getElem (by omega)
      rw [hLk, Option.getD_some] at ck
      have hidl : L[kk] < gn := by have := (HL.out.2.1.2 _ (List.getElem_mem (by omega : kk < L.length))).1; rwa [List.length_replicate] at this
      have HSO : Hid (∀ j, (hj : j < kk) → L[j]'(by omega) < L[kk]) := fun j hj => List.pairwise_iff_getElem.1 HL.out.2.1.1 j kk (by omega) (by omega) hj
      have d0 : decide (((L[kk] : Nat) : Int) < 0) = false := by simp
      have dn : decide (gn ≤ L[kk]) = false := by simp; omega
      by_cases hk0 : kk = 0
      · subst hk0
        generalize L[0] = x at *
        clear hOq hLk
        go_wp2_with fail
        go_round
        case rel => exact ⟨1, by omega, by go_num⟩
        case measure => simp [intOf]; omega
      · have cp := own_cell hOq (kk - 1) (by omega)
        have hLp : L[kk - 1]? = some (L[kk - 1]'(by omega)) := List.getElem?_eq_getElem (by omega)
        rw [hLp, Option.getD_some] at cp
        have hso := HSO.out (kk - 1) (by omega)
        obtain ⟨kp, rfl⟩ : ∃ kp, kk = kp + 1 := ⟨kk - 1, by omega⟩
        simp only [Nat.add_sub_cancel] at cp hso
        have dk0 : decide (0 < kp + 1) = true := by simp
        generalize L[kp + 1] = x at *
        generalize L[kp]'(by omega) = y at *
        have dxy : decide (x ≤ y) = false := by simp; omega
        clear hOq hLk hLp HSO
        go_wp2_with fail
        go_round
        case rel => exact ⟨kp + 1 + 1, by omega, by go_num⟩
        case measure => simp [intOf]; omega
    · obtain rfl : k = kk := by omega
      go_wp2_with fail
      go_ret
      exact ⟨rfl, hb0⟩

end Go.Proofs.Qxb6612460aGreatFmt
