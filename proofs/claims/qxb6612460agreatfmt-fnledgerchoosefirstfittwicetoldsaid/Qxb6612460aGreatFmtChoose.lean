import Derived.Test.Qxb6612460aGreatFmtTry
namespace Go.Proofs.Qxb6612460aGreatFmt
open Go.RowKit Go.Sort
attribute [local go_sem] Option.isNone_none Option.isNone_some
attribute [local go_sem] sUpon mUpon
attribute [local go_sem] Mix.isVal Mix.makes

/-- A whole block written: no other block turns. -/
theorem wpList_store_blk2 {P : Program} {ops : Array Oper} {rest : List Oper} {o : Oper} {a : Act} {w : World} {Q : Exit → Act → World → Prop} (hgd : o.guard = none) (ty : TypeId) (x y : Operand) (ho : o.op = .store ty x y)
    (g : Nat) (cells : Array Value) (hx : a.eval x = .pointer (some ⟨g, 0, none⟩)) (hy : a.eval y = .agg cells)
    (t : TypeId) (old : Array Value) (hg : w.heap[g]? = some (.cells old t (0, 0))) (hi : (P.info? ty).map (·.size) = some cells.size)
    (hold : old.size = cells.size) (h1 : cells.all (·.oneCell') = true)
    (h : ∀ W, W.heap[g]? = some (.cells cells t (0, 0)) → ((∀ k, k ≠ g → W.heap[k]? = w.heap[k]?) ∧ W.heap.size = w.heap.size ∧ RowKit.Below g w W) → wpList P ops Q rest (a.put o.dst undef) W) : wpList P ops Q (o :: rest) a w := by
  refine wpList_store_row hgd ty x y ho g cells hx hy t old hg hi hold h1 (h _ (setRow_heap w g old cells t _ hg) ⟨fun k hk => setRow_other w g k cells hk, by simp [World.setRow], rfl, rfl, rfl, by simp [World.setRow], fun k hk => setRow_other w g k cells (Nat.ne_of_lt hk)⟩)

theorem results_cell_slot {P : Program} {fn : Func} {p sl : Tmp} {ty : TypeId} (h : fn.results = #[.cell p ty, .tmp sl]) (tmps : Array Value) (w : World) (g : Nat) (t : TypeId) (cs : Array Value) (fr : Nat × Nat) (d : TypeDesc)
    (hp : tmps.getD p undef = .pointer (some ⟨g, 0, none⟩)) (hg : w.heap[g]? = some (.cells cs t fr))
    (hu : P.underlying ty = some d) (hd : (match d with | .struct _ | .array _ _ => true | _ => false) = true) (hi : (P.info? ty).map (·.size) = some cs.size) :
    (results fn tmps).run P w = .ok (.tuple #[.agg cs, tmps.getD sl undef]) w := by
  have hp' : tmps[p]?.getD undef = .pointer (some ⟨g, 0, none⟩) := by simpa using hp
  simp [results, h, hp', asAddr, run_loadVar_row w g t ty cs fr d hg hu hd hi]

/-- A decision: the grant, its cost, the books' version. -/
def decV (node : Int) (ids : Value) (cpu mem g : Int) : Value := .agg #[.int .i64 node, ids, .int .i64 cpu, .int .i64 mem, .int .i64 g, .int .i64 0, .int .i64 0, .int .i64 0, .bool false, .string ⟨#[]⟩, .int .i64 0, .int .u64 0]
def ChoosePost (w : World) (cpu mem rc rm : Int) (k : Nat) (across : Bool) (ps : List (Nat × Bool)) (fr : List Nat) (e : Ending) (w' : World) : Prop :=
  Below w.heap.size w w' ∧
  ((Fits cpu mem rc rm k across fr ∧ ∃ (g cap : Nat) (L : List Nat), e = .returned (.tuple #[decV 0 (.slice (some ⟨g, 0, none⟩) k cap) rc rm k, .bool true]) ∧ w'.ownsRow w.heap.size 3 1 (.slice (some ⟨g, 0, none⟩) k cap) k (L.map natV) ∧ GrantedIds ps k (!across) L) ∨
   (¬ Fits cpu mem rc rm k across fr ∧ e = .returned (.tuple #[decV 0 (.slice none 0 0) 0 0 0, .bool false])))

/-- What stands behind the one round. -/
def RoundAt (W2 wr : World) (gb : Nat) (cpu mem rc rm : Int) (k : Nat) (across : Bool) (ps : List (Nat × Bool)) (fr : List Nat) : Prop :=
  Below gb W2 wr ∧ W2.heap.size ≤ wr.heap.size ∧
  ((Fits cpu mem rc rm k across fr ∧ ∃ (g cap : Nat) (L : List Nat), wr.heap[gb]? = some (.cells #[.int .i64 0, .int .u8 2, .int .i64 0, .slice (some ⟨g, 0, none⟩) k cap] 127 (0, 0)) ∧ wr.ownsRow (gb + 1) 3 1 (.slice (some ⟨g, 0, none⟩) k cap) k (L.map natV) ∧ GrantedIds ps k (!across) L) ∨
   (¬ Fits cpu mem rc rm k across fr ∧ wr.heap[gb]? = some (.cells #[.int .i64 (-1), .int .u8 0, .int .i64 0, .slice none 0 0] 127)))

set_option maxRecDepth 100000 in
set_option maxHeartbeats 4000000 in
theorem choose1 (s m b : Nat) (cpu mem rc rm : Int) (k : Nat) (across : Bool) (ps : List (Nat × Bool)) (fr : List Nat) (w : World)
    (hN : NodeAt w s m 0 b) (hB : BooksAt w b cpu mem ps fr) (hv : ∃ vg vo vc, w.cell? ⟨s, 3, none⟩ = some (.slice (some ⟨vg, vo, none⟩) 1 vc) ∧ w.cell? ⟨vg, vo, none⟩ = some (.int .i64 0))
    (hc0 : 0 ≤ cpu) (hc1 : cpu ≤ 9223372036854775807) (hm0 : 0 ≤ mem) (hm1 : mem ≤ 9223372036854775807) (hk2 : k ≤ 65536) (hfl : fr.length ≤ 65536) (hpl : ps.length ≤ 65536) (hF : FrOf ps fr) :
    Calls Tryz.prog 24 #[.pointer (some ⟨s, 0, none⟩), .agg #[.int .i64 rc, .int .i64 rm, .int .i64 k, .int .i64 0, .int .i64 0, .int .i64 0, .bool false, .string ⟨#[]⟩, .bool across], .pointer none] w (ChoosePost w cpu mem rc rm k across ps fr) := by
  have HB : Hid (BooksAt w b cpu mem ps fr) := hB
  have HN : Hid (NodeAt w s m 0 b) := hN
  obtain ⟨vg, vo, vc, v1, v2⟩ := hv
  have lts := cell_lt v1
  have ltv := cell_lt v2
  have ltb := cell_lt hB.c1
  simp only at lts ltv ltb
  clear hB hN
  have HP : Hid (∀ e w', ChoosePost w cpu mem rc rm k across ps fr e w' → ChoosePost w cpu mem rc rm k across ps fr e w') := fun _ _ h => h
  have q23 : ∀ (w : World) (g n c : Nat), (binOp .eql 23 (.slice (some ⟨g, 0, none⟩) n c) (.slice none 0 0)).run Tryz.prog w = .ok (.bool false) w := fun w g n c => Lib.run_eql_slice_nil w _ _ (some _) n c 0 0 Tryz.underlying23
  go_enter Tryz.func24, Tryz.ntmps24
  have hb0 : Below w.heap.size w ((w.alloc (.cells #[.int .i64 rc, .int .i64 rm, .int .i64 k, .int .i64 0, .int .i64 0, .int .i64 0, .bool false, .string ⟨#[]⟩, .bool across] 104)).alloc (.cells #[.int .i64 0, .slice none 0 0, .int .i64 0, .int .i64 0, .int .i64 0, .int .i64 0, .int .i64 0, .int .i64 0, .bool false, .string ⟨#[]⟩, .int .i64 0, .int .u64 0] 99)) := (below_alloc1 _ _).alloc (by simp) _
  have H0 : Hid (((w.alloc (.cells #[.int .i64 rc, .int .i64 rm, .int .i64 k, .int .i64 0, .int .i64 0, .int .i64 0, .bool false, .string ⟨#[]⟩, .bool across] 104)).alloc (.cells #[.int .i64 0, .slice none 0 0, .int .i64 0, .int .i64 0, .int .i64 0, .int .i64 0, .int .i64 0, .int .i64 0, .bool false, .string ⟨#[]⟩, .int .i64 0, .int .u64 0] 99)).heap[w.heap.size]? = some (.cells #[.int .i64 rc, .int .i64 rm, .int .i64 k, .int .i64 0, .int .i64 0, .int .i64 0, .bool false, .string ⟨#[]⟩, .bool across] 104)) := by
    show _ = _
    rw [heap_alloc_old _ _ (by simp), heap_alloc_new]
  have H1 : Hid (((w.alloc (.cells #[.int .i64 rc, .int .i64 rm, .int .i64 k, .int .i64 0, .int .i64 0, .int .i64 0, .bool false, .string ⟨#[]⟩, .bool across] 104)).alloc (.cells #[.int .i64 0, .slice none 0 0, .int .i64 0, .int .i64 0, .int .i64 0, .int .i64 0, .int .i64 0, .int .i64 0, .bool false, .string ⟨#[]⟩, .int .i64 0, .int .u64 0] 99)).heap[w.heap.size + 1]? = some (.cells #[.int .i64 0, .slice none 0 0, .int .i64 0, .int .i64 0, .int .i64 0, .int .i64 0, .int .i64 0, .int .i64 0, .bool false, .string ⟨#[]⟩, .int .i64 0, .int .u64 0] 99)) := heap_alloc2_new w _ _
  go_wp2_with fail
  generalize hW : (w.alloc (.cells #[.int .i64 rc, .int .i64 rm, .int .i64 k, .int .i64 0, .int .i64 0, .int .i64 0, .bool false, .string ⟨#[]⟩, .bool across] 104)).alloc (.cells #[.int .i64 0, .slice none 0 0, .int .i64 0, .int .i64 0, .int .i64 0, .int .i64 0, .int .i64 0, .int .i64 0, .bool false, .string ⟨#[]⟩, .int .i64 0, .int .u64 0] 99) = W at *
  clear hW
  have HNW : Hid (NodeAt W s m 0 b) := HN.out.below hb0
  refine (deciding s m rc rm k across W hk2 HNW.out.mixp HNW.out.mix).mono ?_
  rintro e W1 ⟨rfl, hb1⟩
  have l0 := hb0.size
  have hbA : Below w.heap.size w W1 := hb0.trans (hb1.mono l0)
  have H0' : Hid (W1.heap[w.heap.size]? = some (.cells #[.int .i64 rc, .int .i64 rm, .int .i64 k, .int .i64 0, .int .i64 0, .int .i64 0, .bool false, .string ⟨#[]⟩, .bool across] 104)) := (hb1.block _ (heap_lt H0.out)).trans H0.out
  have H1' : Hid (W1.heap[w.heap.size + 1]? = some (.cells #[.int .i64 0, .slice none 0 0, .int .i64 0, .int .i64 0, .int .i64 0, .int .i64 0, .int .i64 0, .int .i64 0, .bool false, .string ⟨#[]⟩, .int .i64 0, .int .u64 0] 99)) := (hb1.block _ (heap_lt H1.out)).trans H1.out
  have l1 := heap_lt H1'.out
  clear hb1 hb0 H0 H1 HNW l0
  go_upto_region 3 with fail
  have hb2 : Below W1.heap.size W1 ((W1.alloc (.cells #[.int .i64 rc, .int .i64 rm, .int .i64 k, .int .i64 0, .int .i64 0, .int .i64 0, .bool false, .string ⟨#[]⟩, .bool across, .int .i64 (-1), .bool false, .int .i64 (1000 * k)] 121)).alloc (.cells #[.int .i64 (-1), .int .u8 0, .int .i64 0, .slice none 0 0] 127)) := (below_alloc1 _ _).alloc (by simp) _
  have HQ : Hid (((W1.alloc (.cells #[.int .i64 rc, .int .i64 rm, .int .i64 k, .int .i64 0, .int .i64 0, .int .i64 0, .bool false, .string ⟨#[]⟩, .bool across, .int .i64 (-1), .bool false, .int .i64 (1000 * k)] 121)).alloc (.cells #[.int .i64 (-1), .int .u8 0, .int .i64 0, .slice none 0 0] 127)).heap[W1.heap.size]? = some (.cells #[.int .i64 rc, .int .i64 rm, .int .i64 k, .int .i64 0, .int .i64 0, .int .i64 0, .bool false, .string ⟨#[]⟩, .bool across, .int .i64 (-1), .bool false, .int .i64 (1000 * k)] 121)) := by
    show _ = _
    rw [heap_alloc_old _ _ (by simp), heap_alloc_new]
  have HBE : Hid (((W1.alloc (.cells #[.int .i64 rc, .int .i64 rm, .int .i64 k, .int .i64 0, .int .i64 0, .int .i64 0, .bool false, .string ⟨#[]⟩, .bool across, .int .i64 (-1), .bool false, .int .i64 (1000 * k)] 121)).alloc (.cells #[.int .i64 (-1), .int .u8 0, .int .i64 0, .slice none 0 0] 127)).heap[W1.heap.size + 1]? = some (.cells #[.int .i64 (-1), .int .u8 0, .int .i64 0, .slice none 0 0] 127)) := heap_alloc2_new W1 _ _
  have hsz2 : ((W1.alloc (.cells #[.int .i64 rc, .int .i64 rm, .int .i64 k, .int .i64 0, .int .i64 0, .int .i64 0, .bool false, .string ⟨#[]⟩, .bool across, .int .i64 (-1), .bool false, .int .i64 (1000 * k)] 121)).alloc (.cells #[.int .i64 (-1), .int .u8 0, .int .i64 0, .slice none 0 0] 127)).heap.size = W1.heap.size + 2 := by simp
  generalize hW2 : (W1.alloc (.cells #[.int .i64 rc, .int .i64 rm, .int .i64 k, .int .i64 0, .int .i64 0, .int .i64 0, .bool false, .string ⟨#[]⟩, .bool across, .int .i64 (-1), .bool false, .int .i64 (1000 * k)] 121)).alloc (.cells #[.int .i64 (-1), .int .u8 0, .int .i64 0, .slice none 0 0] 127) = W2 at *
  clear hW2
  have hbB : Below w.heap.size w W2 := hbA.trans (hb2.mono hbA.size)
  have H0b : Hid (W2.heap[w.heap.size]? = some (.cells #[.int .i64 rc, .int .i64 rm, .int .i64 k, .int .i64 0, .int .i64 0, .int .i64 0, .bool false, .string ⟨#[]⟩, .bool across] 104)) := (hb2.block _ (heap_lt H0'.out)).trans H0'.out
  have H1b : Hid (W2.heap[w.heap.size + 1]? = some (.cells #[.int .i64 0, .slice none 0 0, .int .i64 0, .int .i64 0, .int .i64 0, .int .i64 0, .int .i64 0, .int .i64 0, .bool false, .string ⟨#[]⟩, .int .i64 0, .int .u64 0] 99)) := (hb2.block _ (heap_lt H1'.out)).trans H1'.out
  have HN2 : Hid (NodeAt W2 s m 0 b) := HN.out.below hbB
  have HB2 : Hid (BooksAt W2 b cpu mem ps fr) := HB.out.below hbB
  have V1 : Hid (W2.cell? ⟨s, 3, none⟩ = some (.slice (some ⟨vg, vo, none⟩) 1 vc)) := (hbB.cell (p := ⟨s, 3, none⟩) lts).trans v1
  have V2 : Hid (W2.cell? ⟨vg, vo, none⟩ = some (.int .i64 0)) := (hbB.cell (p := ⟨vg, vo, none⟩) ltv).trans v2
  clear hb2 hbA H0' H1' v1 v2
  have hQlt : W1.heap.size < W2.heap.size := by omega
  go_wp2_with fail
  refine (recalled_nil s _ _ _ _ _ rfl W2 V1.out).mono ?_
  rintro e w' ⟨rfl, rfl⟩
  go_wp2_with fail
  go_loopw [26] (fun iv wr => (iv = .int .i64 0 ∧ Hid (W2 = wr)) ∨ (iv = .int .i64 1 ∧ Hid (RoundAt W2 wr (W1.heap.size + 1) cpu mem rc rm k across ps fr))) (fun iv _ => 1 - (intOf iv).toNat)
  case atStart => exact .inl ⟨rfl, rfl⟩
  case round =>
    rcases hrel with ⟨rfl, hw0⟩ | ⟨rfl, hR⟩
    · have hw0' : W2 = wr := hw0.out
      subst hw0'
      have n14 := HB2.out.c14
      obtain ⟨ng, no, n, cap, n1, n2, n3⟩ := HN2.out.nodes
      have n3' : W2.cell? ⟨ng, no, none⟩ = some (.pointer (some ⟨b, 0, none⟩)) := by simpa using n3
      have V2' := V2.out
      clear n3
      go_wp2_with fail
      refine (least_nil 0 0 W2).mono ?_
      rintro e w' ⟨rfl, rfl⟩
      go_wp2_with fail
      refine (try_first s m 0 b W1.heap.size (W1.heap.size + 1) cpu mem rc rm k across ps fr W2 HN2.out HB2.out HQ.out (blk_c HBE.out (Below.refl _ _) (i := 0) rfl) hc0 hc1 hm0 hm1 hk2 hfl hpl hF).mono ?_
      rintro e W3 ⟨hb3, ⟨hfit, g, cap', L, rfl, hown, hgr⟩ | ⟨hfit, rfl⟩⟩
      · have HFI : Hid _ := hfit
        have HOW : Hid _ := hown
        have HGR : Hid _ := hgr
        clear hfit hown hgr n14 n1 n2 n3' V2'
        have l3 := hb3.size
        go_wp2_with fail
        have hb4 : Below W3.heap.size W3 (W3.alloc (.cells #[.int .u8 2, .int .i64 0] 125)) := below_alloc1 _ _
        have HT4 : Hid ((W3.alloc (.cells #[.int .u8 2, .int .i64 0] 125)).heap[W3.heap.size]? = some (.cells #[.int .u8 2, .int .i64 0] 125)) := heap_alloc_new W3 _
        generalize hW4 : W3.alloc (.cells #[.int .u8 2, .int .i64 0] 125) = W4 at *
        clear hW4
        refine (keep_nil 0 _ _ 0 W4).mono ?_
        rintro e W5 ⟨rfl, hb5⟩
        have hb35 : Below W3.heap.size W3 W5 := hb4.trans (hb5.mono hb4.size)
        have HT5 : Hid (W5.heap[W3.heap.size]? = some (.cells #[.int .u8 2, .int .i64 0] 125)) := (hb5.block _ (heap_lt HT4.out)).trans HT4.out
        have t0 := blk_c HT5.out (Below.refl _ _) (i := 0) rfl
        have t1 := blk_c HT5.out (Below.refl _ _) (i := 1) rfl
        have hb25 : Below W2.heap.size W2 W5 := hb3.trans (hb35.mono l3)
        have HBE5 : Hid (W5.heap[W1.heap.size + 1]? = some (.cells #[.int .i64 (-1), .int .u8 0, .int .i64 0, .slice none 0 0] 127)) := (hb25.block _ (heap_lt HBE.out)).trans HBE.out
        clear hb4 hb5 HT4
        go_wp2_with fail
        refine (beaten_first (W1.heap.size + 1) 0 0 (-1) W5 (blk_c HBE5.out (Below.refl _ _) (i := 0) rfl) (by omega)).mono ?_
        rintro e W6 ⟨rfl, hb6⟩
        have HT6 : Hid (W6.heap[W3.heap.size]? = some (.cells #[.int .u8 2, .int .i64 0] 125)) := (hb6.block _ (heap_lt HT5.out)).trans HT5.out
        have HBE6 : Hid (W6.heap[W1.heap.size + 1]? = some (.cells #[.int .i64 (-1), .int .u8 0, .int .i64 0, .slice none 0 0] 127)) := (hb6.block _ (heap_lt HBE5.out)).trans HBE5.out
        have hb26 : Below W2.heap.size W2 W6 := hb25.trans (hb6.mono hb25.size)
        have hb36 : Below W3.heap.size W3 W6 := hb35.trans (hb6.mono hb35.size)
        clear hb6 hb25 hb35 HT5 HBE5 t0 t1
        have t0 := blk_c HT6.out (Below.refl _ _) (i := 0) rfl
        have t1 := blk_c HT6.out (Below.refl _ _) (i := 1) rfl
        go_wp2_with (refine wpList_store_blk2 rfl 127 _ _ rfl (W1.heap.size + 1) _ rfl rfl 127 _ HBE6.out (by kernel_rfl) rfl (by simp [Value.oneCell']) ?_; intro W7 hw7 ho7; have HW7 : Hid _ := hw7; have HO7 : Hid _ := ho7; clear hw7 ho7; have t0' := blk_c (W := W7) ((HO7.out.1 _ (by omega)).trans HT6.out) (Below.refl _ _) (i := 0) rfl)
        have HRR : Hid (RoundAt W2 W7 (W1.heap.size + 1) cpu mem rc rm k across ps fr) := by
          refine ⟨(hb26.mono (by omega)).trans HO7.out.2.2, by have := HO7.out.2.1; have := hb26.size; omega, .inl ⟨HFI.out, g, cap', L, HW7.out, ?_, HGR.out⟩⟩
          refine owns_low (ownsRow_same (owns_below HOW.out hb36) (fun q hq => HO7.out.1 q ?_)) (by omega)
          have := owns_block HOW.out q hq
          omega
        go_roundw
        case rel => first | exact .inr ⟨by go_num, HRR.out⟩ | ((repeat apply Exists.intro); exact ⟨.inr ⟨by go_num, HRR.out⟩, rfl⟩)
        case measure => simp [intOf]
      · have HFI : Hid _ := hfit
        clear hfit n14 n1 n2 n3' V2'
        have l3 := hb3.size
        go_wp2_with fail
        have hb4 : Below W3.heap.size W3 (W3.alloc (.cells #[.int .u8 1, .int .i64 0] 125)) := below_alloc1 _ _
        have HT4 : Hid ((W3.alloc (.cells #[.int .u8 1, .int .i64 0] 125)).heap[W3.heap.size]? = some (.cells #[.int .u8 1, .int .i64 0] 125)) := heap_alloc_new W3 _
        generalize hW4 : W3.alloc (.cells #[.int .u8 1, .int .i64 0] 125) = W4 at *
        clear hW4
        refine (keep_nil 0 _ _ 0 W4).mono ?_
        rintro e W5 ⟨rfl, hb5⟩
        have hb35 : Below W3.heap.size W3 W5 := hb4.trans (hb5.mono hb4.size)
        have HT5 : Hid (W5.heap[W3.heap.size]? = some (.cells #[.int .u8 1, .int .i64 0] 125)) := (hb5.block _ (heap_lt HT4.out)).trans HT4.out
        have t0 := blk_c HT5.out (Below.refl _ _) (i := 0) rfl
        have t1 := blk_c HT5.out (Below.refl _ _) (i := 1) rfl
        have hb25 : Below W2.heap.size W2 W5 := hb3.trans (hb35.mono l3)
        clear hb4 hb5 HT4
        go_wp2_with fail
        refine (beaten_no (W1.heap.size + 1) 0 1 0 W5 (by decide) (by decide)).mono ?_
        rintro e W6 ⟨rfl, hb6⟩
        have HT6 : Hid (W6.heap[W3.heap.size]? = some (.cells #[.int .u8 1, .int .i64 0] 125)) := (hb6.block _ (heap_lt HT5.out)).trans HT5.out
        have hb26 : Below W2.heap.size W2 W6 := hb25.trans (hb6.mono hb25.size)
        clear hb6 hb25 hb35 HT5 t0 t1
        have t0 := blk_c HT6.out (Below.refl _ _) (i := 0) rfl
        have HRR : Hid (RoundAt W2 W6 (W1.heap.size + 1) cpu mem rc rm k across ps fr) :=
          ⟨hb26.mono (by omega), hb26.size, .inr ⟨HFI.out, (hb26.block _ (heap_lt HBE.out)).trans HBE.out⟩⟩
        go_wp2_with fail
        go_roundw
        case rel => first | exact .inr ⟨by go_num, HRR.out⟩ | ((repeat apply Exists.intro); exact ⟨.inr ⟨by go_num, HRR.out⟩, rfl⟩)
        case measure => simp [intOf]
    · have hbw : Below w.heap.size w wr := hbB.trans (hR.out.1.mono (by omega))
      have H0r : Hid (wr.heap[w.heap.size]? = some (.cells #[.int .i64 rc, .int .i64 rm, .int .i64 k, .int .i64 0, .int .i64 0, .int .i64 0, .bool false, .string ⟨#[]⟩, .bool across] 104)) := (hR.out.1.block _ (by omega)).trans H0b.out
      have H1r : Hid (wr.heap[w.heap.size + 1]? = some (.cells #[.int .i64 0, .slice none 0 0, .int .i64 0, .int .i64 0, .int .i64 0, .int .i64 0, .int .i64 0, .int .i64 0, .bool false, .string ⟨#[]⟩, .int .i64 0, .int .u64 0] 99)) := (hR.out.1.block _ (by omega)).trans H1b.out
      have HNr : Hid (NodeAt wr s m 0 b) := HN.out.below hbw
      have HBr : Hid (BooksAt wr b cpu mem ps fr) := HB.out.below hbw
      obtain ⟨hbr, hsr, ⟨hfit, g, cap', L, hbst, hown, hgr⟩ | ⟨hfit, hbst⟩⟩ := hR.out
      · have HFI : Hid _ := hfit
        have HOW : Hid _ := hown
        have HGR : Hid _ := hgr
        have HBS : Hid _ := hbst
        clear hfit hown hgr hR hbst
        have b0 := blk_c HBS.out (Below.refl _ _) (i := 0) rfl
        have b2 := blk_c HBS.out (Below.refl _ _) (i := 2) rfl
        have b3 := blk_c HBS.out (Below.refl _ _) (i := 3) rfl
        obtain ⟨ng, no, n, cap, n1, n2, n3⟩ := HNr.out.nodes
        have n3' : wr.cell? ⟨ng, no, none⟩ = some (.pointer (some ⟨b, 0, none⟩)) := by simpa using n3
        clear n3
        have x0 := blk_c H0r.out (Below.refl _ _) (i := 0) rfl
        have x1 := blk_c H0r.out (Below.refl _ _) (i := 1) rfl
        have x2 := blk_c H0r.out (Below.refl _ _) (i := 2) rfl
        have x3 := blk_c H0r.out (Below.refl _ _) (i := 3) rfl
        have x4 := blk_c H0r.out (Below.refl _ _) (i := 4) rfl
        have x5 := blk_c H0r.out (Below.refl _ _) (i := 5) rfl
        have x6 := blk_c H0r.out (Below.refl _ _) (i := 6) rfl
        have x7 := blk_c H0r.out (Below.refl _ _) (i := 7) rfl
        go_wp2_with fail
        go_quiet (fail)
        go_wp2_with fail
        refine (resolve b 0 _ _ _ _ rfl rc rm k 0 _).mono ?_
        rintro e W3 ⟨rfl, hb3⟩
        have hb3' : Below wr.heap.size wr W3 := (below_drewN (Below.refl _ _) _).trans (hb3.mono (Nat.le_refl _))
        have l2 := hbw.size
        have hbw3 : Below w.heap.size w W3 := hbw.trans (hb3'.mono l2)
        have H1s : Hid (W3.heap[w.heap.size + 1]? = some (.cells #[.int .i64 0, .slice none 0 0, .int .i64 0, .int .i64 0, .int .i64 0, .int .i64 0, .int .i64 0, .int .i64 0, .bool false, .string ⟨#[]⟩, .int .i64 0, .int .u64 0] 99)) := (hb3'.block _ (heap_lt H1r.out)).trans H1r.out
        have HBS3 : Hid _ := (hb3'.block _ (heap_lt HBS.out)).trans HBS.out
        have HB3 : Hid (BooksAt W3 b cpu mem ps fr) := HBr.out.below hb3'
        have HOW3 : Hid _ := owns_below HOW.out hb3'
        clear x0 x1 x2 x3 x4 x5 x6 x7 b0 b2 b3 n1 n2 n3' hb3 hb3' HOW HBS HBr HNr H0r H1r
        go_upto_region 19 with fail
        have hb4 : Below W3.heap.size W3 (W3.alloc (.cells #[.int .i64 0, .slice (some ⟨g, 0, none⟩) k cap', .int .i64 rc, .int .i64 rm, .int .i64 k, .int .i64 0, .int .i64 0, .int .i64 0, .bool false, .string ⟨#[]⟩] 36)) := below_alloc1 _ _
        have HG4 : Hid ((W3.alloc (.cells #[.int .i64 0, .slice (some ⟨g, 0, none⟩) k cap', .int .i64 rc, .int .i64 rm, .int .i64 k, .int .i64 0, .int .i64 0, .int .i64 0, .bool false, .string ⟨#[]⟩] 36)).heap[W3.heap.size]? = some (.cells #[.int .i64 0, .slice (some ⟨g, 0, none⟩) k cap', .int .i64 rc, .int .i64 rm, .int .i64 k, .int .i64 0, .int .i64 0, .int .i64 0, .bool false, .string ⟨#[]⟩] 36)) := heap_alloc_new W3 _
        generalize hW4 : W3.alloc (.cells #[.int .i64 0, .slice (some ⟨g, 0, none⟩) k cap', .int .i64 rc, .int .i64 rm, .int .i64 k, .int .i64 0, .int .i64 0, .int .i64 0, .bool false, .string ⟨#[]⟩] 36) = W4 at *
        clear hW4
        have H1t : Hid (W4.heap[w.heap.size + 1]? = some (.cells #[.int .i64 0, .slice none 0 0, .int .i64 0, .int .i64 0, .int .i64 0, .int .i64 0, .int .i64 0, .int .i64 0, .bool false, .string ⟨#[]⟩, .int .i64 0, .int .u64 0] 99)) := (hb4.block _ (heap_lt H1s.out)).trans H1s.out
        have HBS4 : Hid _ := (hb4.block _ (heap_lt HBS3.out)).trans HBS3.out
        have HOW4 : Hid _ := owns_below HOW3.out hb4
        have hbw4 : Below w.heap.size w W4 := hbw3.trans (hb4.mono hbw3.size)
        have y2 := blk_r HBS4.out (i := 2) rfl
        have y14 := cell_regrown (HB3.out.below hb4).c14
        have g0 := blk_r HG4.out (i := 0) rfl
        have g1 := blk_r HG4.out (i := 1) rfl
        have g2 := blk_r HG4.out (i := 2) rfl
        have g3 := blk_r HG4.out (i := 3) rfl
        have g4 := blk_r HG4.out (i := 4) rfl
        have g5 := blk_r HG4.out (i := 5) rfl
        have g6 := blk_r HG4.out (i := 6) rfl
        have g7 := blk_r HG4.out (i := 7) rfl
        have g8 := blk_r HG4.out (i := 8) rfl
        have g9 := blk_r HG4.out (i := 9) rfl
        clear hb4 hbw3
        refine wp_region_quiet_list 9 (by kernel_rfl) (by kernel_rfl) (by kernel_rfl) ?_
        simp only [List.take_succ_cons, List.take_zero, List.drop_succ_cons, List.drop_zero]
        repeat (go_big_quiet_step (fail))
        refine wpQuiet_nil ?_
        intro W5 hb5
        clear g0 g1 g2 g3 g4 g5 g6 g7 g8 g9 y2 y14
        have H1u : Hid (W5.heap[w.heap.size + 1]? = some (.cells #[.int .i64 0, .slice none 0 0, .int .i64 0, .int .i64 0, .int .i64 0, .int .i64 0, .int .i64 0, .int .i64 0, .bool false, .string ⟨#[]⟩, .int .i64 0, .int .u64 0] 99)) := (hb5.block _ (heap_lt H1t.out)).trans H1t.out
        refine wpList_store_blk2 rfl 99 _ _ rfl (w.heap.size + 1) _ rfl rfl 99 _ H1u.out (by kernel_rfl) rfl (by simp [Value.oneCell']) ?_
        intro W6 hw6 ho6
        have HW6 : Hid _ := hw6
        clear hw6
        go_wp2_with fail
        refine bodyPost_ret (results_cell_slot Tryz.results24 _ W6 _ 99 _ (0, 0) _ rfl HW6.out Tryz.underlying99 rfl (by kernel_rfl)) rfl ⟨?_, .inl ⟨HFI.out, g, cap', L, rfl, ?_, HGR.out⟩⟩
        · exact (hbw4.trans (hb5.mono hbw4.size)).trans (ho6.2.2.mono (Nat.le_succ _))
        · refine owns_low (ownsRow_same (owns_below HOW4.out hb5) (fun q hq => ho6.1 q ?_)) (by omega)
          have := owns_block HOW4.out q hq
          omega
      · have HFI : Hid _ := hfit
        have b0 := blk_c hbst (Below.refl _ _) (i := 0) rfl
        clear hfit hbst hR
        go_wp2_with (refine wpList_store_blk2 rfl 99 _ _ rfl (w.heap.size + 1) _ rfl rfl 99 _ H1r.out (by kernel_rfl) rfl (by simp [Value.oneCell']) ?_; intro W6 hw6 ho6; have HW6 : Hid _ := hw6; clear hw6)
        refine bodyPost_ret (results_cell_slot Tryz.results24 _ W6 _ 99 _ (0, 0) _ rfl HW6.out Tryz.underlying99 rfl (by kernel_rfl)) rfl ⟨?_, .inr ⟨HFI.out, rfl⟩⟩
        exact hbw.trans (ho6.2.2.mono (Nat.le_succ _))

end Go.Proofs.Qxb6612460aGreatFmt
