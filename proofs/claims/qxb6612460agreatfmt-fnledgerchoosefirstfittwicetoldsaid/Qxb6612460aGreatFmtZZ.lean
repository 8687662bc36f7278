import Derived.Test.Qxb6612460aGreatFmtChoose
import Derived.Test.Qxb6612460aGreatFmtAtomic
namespace Go.Proofs.Qxb6612460aGreatFmt
open Go.RowKit Go.Sort
attribute [local go_sem] Option.isNone_none Option.isNone_some
attribute [local go_sem] sUpon mUpon
attribute [local go_sem] Mix.isVal Mix.makes

theorem results_cell_slot2 {P : Program} {fn : Func} {p sl sl' : Tmp} {ty : TypeId} (h : fn.results = #[.cell p ty, .tmp sl, .tmp sl']) (tmps : Array Value) (w : World) (g : Nat) (t : TypeId) (cs : Array Value) (fr : Nat × Nat) (d : TypeDesc)
    (hp : tmps.getD p undef = .pointer (some ⟨g, 0, none⟩)) (hg : w.heap[g]? = some (.cells cs t fr))
    (hu : P.underlying ty = some d) (hd : (match d with | .struct _ | .array _ _ => true | _ => false) = true) (hi : (P.info? ty).map (·.size) = some cs.size) :
    (results fn tmps).run P w = .ok (.tuple #[.agg cs, tmps.getD sl undef, tmps.getD sl' undef]) w := by
  have hp' : tmps[p]?.getD undef = .pointer (some ⟨g, 0, none⟩) := by simpa using hp
  simp [results, h, hp', asAddr, run_loadVar_row w g t ty cs fr d hg hu hd hi]

def grantV (node : Int) (ids : Value) (cpu mem g : Int) : Value := .agg #[.int .i64 node, ids, .int .i64 cpu, .int .i64 mem, .int .i64 g, .int .i64 0, .int .i64 0, .int .i64 0, .bool false, .string ⟨#[]⟩]
def ZZPost (w : World) (cpu mem rc rm : Int) (k : Nat) (across : Bool) (ps : List (Nat × Bool)) (fr : List Nat) (e : Ending) (w' : World) : Prop :=
  Below w.heap.size w w' ∧
  ((Fits cpu mem rc rm k across fr ∧ ∃ (g cap : Nat) (L : List Nat), e = .returned (.tuple #[grantV 0 (.slice (some ⟨g, 0, none⟩) k cap) rc rm k, .int .i64 0, .bool true]) ∧ w'.ownsRow w.heap.size 3 1 (.slice (some ⟨g, 0, none⟩) k cap) k (L.map natV) ∧ GrantedIds ps k (!across) L) ∨
   (¬ Fits cpu mem rc rm k across fr ∧ e = .returned (.tuple #[grantV 0 (.slice none 0 0) 0 0 0, .int .i64 0, .bool false])))
/-- What is known of the decision. -/
def DecAt (B : Nat) (ps : List (Nat × Bool)) (rc rm : Int) (k : Nat) (one : Bool) (u : Value) (W : World) : Prop :=
  ∃ (g cap : Nat) (L : List Nat), u = .tuple #[decV 0 (.slice (some ⟨g, 0, none⟩) k cap) rc rm k, .bool true] ∧ W.ownsRow B 3 1 (.slice (some ⟨g, 0, none⟩) k cap) k (L.map natV) ∧ GrantedIds ps k one L
theorem decAt_lasts (B : Nat) (ps : List (Nat × Bool)) (rc rm : Int) (k : Nat) (one : Bool) (u : Value) : Lasts (DecAt B ps rc rm k one u) := by
  rintro W W' hb ⟨g, cap, L, h1, h2, h3⟩
  exact ⟨g, cap, L, h1, owns_below h2 hb, h3⟩
theorem store_runs {P : Program} {o : Oper} {a : Act} {w : World} (ty : TypeId) (x y : Operand) (ho : o.op = .store ty x y)
    (g : Nat) (cells : Array Value) (hx : a.eval x = .pointer (some ⟨g, 0, none⟩)) (hy : a.eval y = .agg cells)
    (t : TypeId) (old : Array Value) (hg : w.heap[g]? = some (.cells old t (0, 0))) (hi : (P.info? ty).map (·.size) = some cells.size)
    (hold : old.size = cells.size) (h1 : cells.all (·.oneCell') = true) : (execOp a.eval o).run P w = .ok .skip (w.setRow g cells) := by
  unfold execOp
  simp only [ho, hx, hy, Instr.storeAt, Instr.sureAddr, Sem.run_bind, Sem.run_pure, Result.andThen_ok, run_storeVar_row w g t ty old cells hg hi hold h1]
theorem below_drew {B : Nat} {a w : World} (h : Below B a w) : Below B a w.drew := ⟨h.os, h.tape, h.output, h.size, h.block⟩
theorem owns_ne {W : World} {B : Nat} {e t : TypeId} {size : Nat} {v : Value} {n : Nat} {xs : List Value} (h : W.ownsRow B e size v n xs) {g : Nat} {cs : Array Value} {f : Nat × Nat} (hg : W.heap[g]? = some (.cells cs t f)) (hne : e ≠ t) (q : Nat) (hq : v.ownBlock = some q) : q ≠ g := by
  intro he
  subst he
  rcases h.2 with ⟨rfl, _⟩ | ⟨g', cap, cur, rfl, _, hh, _⟩
  · cases hq
  · simp only [Value.ownBlock, Option.some.injEq] at hq
    subst hq
    rw [hg] at hh
    simp only [Option.some.injEq, Obj.cells.injEq] at hh
    exact hne hh.2.1.symm
theorem owns_drew {w : World} {base : Nat} {e : TypeId} {size : Nat} {v : Value} {n : Nat} {xs : List Value} (h : w.ownsRow base e size v n xs) : w.drew.ownsRow base e size v n xs := h
theorem owns_setCell {w : World} {base : Nat} {e : TypeId} {size : Nat} {v : Value} {n : Nat} {xs : List Value} {a : Addr} {u : Value} (h : w.ownsRow base e size v n xs) (hne : ∀ q, v.ownBlock = some q → q ≠ a.block) : (w.setCell a u).ownsRow base e size v n xs :=
  ownsRow_same h (fun q hq => Below.heap_setCell _ _ _ _ (hne q hq))
theorem owns_setRow {W : World} {B : Nat} {e t : TypeId} {size : Nat} {v : Value} {n : Nat} {xs : List Value} (h : W.ownsRow B e size v n xs) {g : Nat} {cs : Array Value} {f : Nat × Nat} (hg : W.heap[g]? = some (.cells cs t f)) (hne : e ≠ t) (ds : Array Value) : (W.setRow g ds).ownsRow B e size v n xs :=
  ownsRow_same h (fun q hq => setRow_other W g q ds (owns_ne h hg hne q hq))
/-- Behind the store of the decision. -/
def AfterDec (w : World) (g9 : Nat) (ids : Value) (rc rm k : Int) (R : World → Prop) (W2 : World) : Prop :=
  Below w.heap.size w W2 ∧ W2.heap[g9]? = some (.cells #[.int .i64 0, ids, .int .i64 rc, .int .i64 rm, .int .i64 k, .int .i64 0, .int .i64 0, .int .i64 0, .bool false, .string ⟨#[]⟩, .int .i64 0, .int .u64 0] 99 (0, 0)) ∧ W2.heap[w.heap.size + 1]? = some (.cells #[.int .i64 0, .slice none 0 0, .int .i64 0, .int .i64 0, .int .i64 0, .int .i64 0, .int .i64 0, .int .i64 0, .bool false, .string ⟨#[]⟩] 36) ∧ R W2

set_option maxRecDepth 100000 in
set_option maxHeartbeats 4000000 in
theorem zzChoose (l s m b : Nat) (cs : Array Value) (cpu mem rc rm : Int) (k : Nat) (across : Bool) (ps : List (Nat × Bool)) (fr : List Nat) (w : World)
    (hl : w.cell? ⟨l, 2, none⟩ = some (.pointer (some ⟨s, 0, none⟩))) (hs : w.heap[s]? = some (.cells cs 58 (0, 0))) (hcs : cs.size = 4)
    (hN : NodeAt w s m 0 b) (hB : BooksAt w b cpu mem ps fr) (hv : ∃ vg vo vc, w.cell? ⟨s, 3, none⟩ = some (.slice (some ⟨vg, vo, none⟩) 1 vc) ∧ w.cell? ⟨vg, vo, none⟩ = some (.int .i64 0))
    (hc0 : 0 ≤ cpu) (hc1 : cpu ≤ 9223372036854775807) (hm0 : 0 ≤ mem) (hm1 : mem ≤ 9223372036854775807) (hk2 : k ≤ 65536) (hfl : fr.length ≤ 65536) (hpl : ps.length ≤ 65536) (hF : FrOf ps fr) :
    Calls Tryz.prog 11 #[.pointer (some ⟨l, 0, none⟩), reqV rc rm k 0, .bool across] w (ZZPost w cpu mem rc rm k across ps fr) := by
  unfold reqV
  go_enter Tryz.func11, Tryz.ntmps11
  have hb0 : Below w.heap.size w ((w.alloc (.cells #[.int .i64 rc, .int .i64 rm, .int .i64 k, .int .i64 0, .int .i64 0, .int .i64 0, .bool false, .string ⟨#[]⟩] 34)).alloc (.cells #[.int .i64 0, .slice none 0 0, .int .i64 0, .int .i64 0, .int .i64 0, .int .i64 0, .int .i64 0, .int .i64 0, .bool false, .string ⟨#[]⟩] 36)) := (below_alloc1 _ _).alloc (by simp) _
  have H0 : Hid (((w.alloc (.cells #[.int .i64 rc, .int .i64 rm, .int .i64 k, .int .i64 0, .int .i64 0, .int .i64 0, .bool false, .string ⟨#[]⟩] 34)).alloc (.cells #[.int .i64 0, .slice none 0 0, .int .i64 0, .int .i64 0, .int .i64 0, .int .i64 0, .int .i64 0, .int .i64 0, .bool false, .string ⟨#[]⟩] 36)).heap[w.heap.size]? = some (.cells #[.int .i64 rc, .int .i64 rm, .int .i64 k, .int .i64 0, .int .i64 0, .int .i64 0, .bool false, .string ⟨#[]⟩] 34)) := by
    show _ = _
    rw [heap_alloc_old _ _ (by simp), heap_alloc_new]
  have H1 : Hid (((w.alloc (.cells #[.int .i64 rc, .int .i64 rm, .int .i64 k, .int .i64 0, .int .i64 0, .int .i64 0, .bool false, .string ⟨#[]⟩] 34)).alloc (.cells #[.int .i64 0, .slice none 0 0, .int .i64 0, .int .i64 0, .int .i64 0, .int .i64 0, .int .i64 0, .int .i64 0, .bool false, .string ⟨#[]⟩] 36)).heap[w.heap.size + 1]? = some (.cells #[.int .i64 0, .slice none 0 0, .int .i64 0, .int .i64 0, .int .i64 0, .int .i64 0, .int .i64 0, .int .i64 0, .bool false, .string ⟨#[]⟩] 36)) := heap_alloc2_new w _ _
  have HL : Hid (((w.alloc (.cells #[.int .i64 rc, .int .i64 rm, .int .i64 k, .int .i64 0, .int .i64 0, .int .i64 0, .bool false, .string ⟨#[]⟩] 34)).alloc (.cells #[.int .i64 0, .slice none 0 0, .int .i64 0, .int .i64 0, .int .i64 0, .int .i64 0, .int .i64 0, .int .i64 0, .bool false, .string ⟨#[]⟩] 36)).cell? ⟨l, 2, none⟩ = some (.pointer (some ⟨s, 0, none⟩))) := (hb0.cell (cell_lt hl)).trans hl
  have HS : Hid (((w.alloc (.cells #[.int .i64 rc, .int .i64 rm, .int .i64 k, .int .i64 0, .int .i64 0, .int .i64 0, .bool false, .string ⟨#[]⟩] 34)).alloc (.cells #[.int .i64 0, .slice none 0 0, .int .i64 0, .int .i64 0, .int .i64 0, .int .i64 0, .int .i64 0, .int .i64 0, .bool false, .string ⟨#[]⟩] 36)).heap[s]? = some (.cells cs 58 (0, 0))) := (hb0.block s (heap_lt hs)).trans hs
  have HN : Hid (NodeAt ((w.alloc (.cells #[.int .i64 rc, .int .i64 rm, .int .i64 k, .int .i64 0, .int .i64 0, .int .i64 0, .bool false, .string ⟨#[]⟩] 34)).alloc (.cells #[.int .i64 0, .slice none 0 0, .int .i64 0, .int .i64 0, .int .i64 0, .int .i64 0, .int .i64 0, .int .i64 0, .bool false, .string ⟨#[]⟩] 36)) s m 0 b) := hN.below hb0
  have HB : Hid (BooksAt ((w.alloc (.cells #[.int .i64 rc, .int .i64 rm, .int .i64 k, .int .i64 0, .int .i64 0, .int .i64 0, .bool false, .string ⟨#[]⟩] 34)).alloc (.cells #[.int .i64 0, .slice none 0 0, .int .i64 0, .int .i64 0, .int .i64 0, .int .i64 0, .int .i64 0, .int .i64 0, .bool false, .string ⟨#[]⟩] 36)) b cpu mem ps fr) := hB.below hb0
  have HV : Hid (∃ vg vo vc, ((w.alloc (.cells #[.int .i64 rc, .int .i64 rm, .int .i64 k, .int .i64 0, .int .i64 0, .int .i64 0, .bool false, .string ⟨#[]⟩] 34)).alloc (.cells #[.int .i64 0, .slice none 0 0, .int .i64 0, .int .i64 0, .int .i64 0, .int .i64 0, .int .i64 0, .int .i64 0, .bool false, .string ⟨#[]⟩] 36)).cell? ⟨s, 3, none⟩ = some (.slice (some ⟨vg, vo, none⟩) 1 vc) ∧ ((w.alloc (.cells #[.int .i64 rc, .int .i64 rm, .int .i64 k, .int .i64 0, .int .i64 0, .int .i64 0, .bool false, .string ⟨#[]⟩] 34)).alloc (.cells #[.int .i64 0, .slice none 0 0, .int .i64 0, .int .i64 0, .int .i64 0, .int .i64 0, .int .i64 0, .int .i64 0, .bool false, .string ⟨#[]⟩] 36)).cell? ⟨vg, vo, none⟩ = some (.int .i64 0)) := by
    obtain ⟨vg, vo, vc, v1, v2⟩ := hv
    exact ⟨vg, vo, vc, (hb0.cell (cell_lt v1)).trans v1, (hb0.cell (cell_lt v2)).trans v2⟩
  go_upto_region 1 with fail
  generalize hW : ((w.alloc (.cells #[.int .i64 rc, .int .i64 rm, .int .i64 k, .int .i64 0, .int .i64 0, .int .i64 0, .bool false, .string ⟨#[]⟩] 34)).alloc (.cells #[.int .i64 0, .slice none 0 0, .int .i64 0, .int .i64 0, .int .i64 0, .int .i64 0, .int .i64 0, .int .i64 0, .bool false, .string ⟨#[]⟩] 36)) = W at *
  clear hW hl hs hN hB hv
  have q0 := blk_r H0.out (i := 0) rfl
  have q1 := blk_r H0.out (i := 1) rfl
  have q2 := blk_r H0.out (i := 2) rfl
  have q3 := blk_r H0.out (i := 3) rfl
  have q4 := blk_r H0.out (i := 4) rfl
  have q5 := blk_r H0.out (i := 5) rfl
  have q6 := blk_r H0.out (i := 6) rfl
  have q7 := blk_r H0.out (i := 7) rfl
  by_cases hfit : Fits cpu mem rc rm k across fr
  · have HFT : Hid _ := hfit
    refine Mix.wp_region_mix (Mix.mkKd [(3, .mk (fun u => u = .pointer (some ⟨s, 0, none⟩)) (fun _ _ => True) []), (7, .mk (fun u => ∃ g cap : Nat, u = .tuple #[decV 0 (.slice (some ⟨g, 0, none⟩) k cap) rc rm k, .bool true]) (DecAt w.heap.size ps rc rm k (!across)) []), (8, .pur), (9, .pur), (10, .pur), (11, .mk (fun u => ∃ g : Nat, u = .pointer (some ⟨g, 0, none⟩)) (newBlock W #[.int .i64 0, .slice none 0 0, .int .i64 0, .int .i64 0, .int .i64 0, .int .i64 0, .int .i64 0, .int .i64 0, .bool false, .string ⟨#[]⟩, .int .i64 0, .int .u64 0] 99) []), (12, .wr), (13, .pur)]) (by kernel_rfl) (by kernel_rfl) (Mix.makers_of ?_) ?_
    · intro p hp
      simp only [List.mem_cons, List.not_mem_nil, or_false] at hp
      rcases hp with rfl | rfl | rfl | rfl | rfl | rfl | rfl | rfl
      · exact ⟨fun _ _ _ _ _ => trivial, _, _, rfl, rfl, by simp⟩
      · exact ⟨decAt_lasts _ _ _ _ _ _, _, _, rfl, rfl, by simp⟩
      · trivial
      · trivial
      · trivial
      · exact ⟨newBlock_lasts _ _ _, _, _, rfl, rfl, by simp⟩
      · trivial
      · trivial
    iterate 3
      refine Mix.x_det rfl (fun K hK => ?_)
      go_simp
      refine hK _ ?_
      clear hK K
    refine Mix.x_mk _ _ _ rfl rfl (.pointer (some ⟨s, 0, none⟩)) rfl (fun p _ => ?_) ?_
    · go_simp
      refine (loadShelf l 2 s _ cs (cell_regrown HL.out p.d p.os) ((below_regrown W p.d p.os).block s (heap_lt HS.out) |>.trans HS.out) hcs).mono ?_
      rintro e w'' ⟨rfl, rfl⟩
      simpa using Below.refl _ _
    rintro u rfl
    iterate 3
      refine Mix.x_det rfl (fun K hK => ?_)
      go_simp
      refine hK _ ?_
      clear hK K
    refine Mix.x_mk _ _ _ rfl rfl (.tuple #[decV 0 (.slice (some ⟨0, 0, none⟩) k 0) rc rm k, .bool true]) ⟨_, _, rfl⟩ (fun p _ => ?_) ?_
    · go_simp
      refine (choose1 s m b cpu mem rc rm k across ps fr _ (HN.out.below (below_regrown W p.d p.os)) (HB.out.below (below_regrown W p.d p.os)) ?_ hc0 hc1 hm0 hm1 hk2 hfl hpl hF).mono ?_
      · obtain ⟨vg, vo, vc, v1, v2⟩ := HV.out
        exact ⟨vg, vo, vc, cell_regrown v1 p.d p.os, cell_regrown v2 p.d p.os⟩
      · skip
        rintro e w'' ⟨hbe, ⟨_, g', cap', L, rfl, hown, hgr⟩ | ⟨hn, _⟩⟩
        · exact ⟨_, rfl, by simpa using hbe, ⟨_, _, rfl⟩, _, _, _, rfl, owns_low hown (Nat.le_trans hb0.size (below_regrown W p.d p.os).size), hgr⟩
        · exact absurd HFT.out hn
    rintro u ⟨g', cap', rfl⟩
    iterate 3
      refine Mix.x_pur rfl (fun K hK => ?_)
      go_simp
      refine hK _ ?_
      clear hK K
    refine Mix.x_mk _ _ _ rfl rfl (.pointer (some ⟨0, 0, none⟩)) ⟨0, rfl⟩ (fun p _ => ?_) ?_
    · go_simp
      exact newBlock_alloc' _ _ _ _
    rintro u ⟨g9, rfl⟩
    refine Mix.x_wr (AfterDec w g9 (.slice (some ⟨g', 0, none⟩) k cap') rc rm k (fun W2 => ∃ L : List Nat, W2.ownsRow w.heap.size 3 1 (.slice (some ⟨g', 0, none⟩) k cap') k (L.map natV) ∧ GrantedIds ps k (!across) L)) rfl rfl ?_ ?_
    · intro W1 hW1
      obtain ⟨hb1, hk1⟩ := hW1
      obtain ⟨g2, he2, hg2, hblk⟩ := hk1 11 _ _ _ _ rfl rfl rfl
      obtain ⟨g3, cap3, L, he3, hown, hgr⟩ := hk1 7 _ _ _ _ rfl rfl rfl
      have he2' : Value.pointer (some ⟨g9, 0, none⟩) = .pointer (some ⟨g2, 0, none⟩) := he2
      obtain rfl : g9 = g2 := by simpa using he2'
      have he3' : Value.tuple #[decV 0 (.slice (some ⟨g', 0, none⟩) k cap') rc rm k, .bool true] = .tuple #[decV 0 (.slice (some ⟨g3, 0, none⟩) k cap3) rc rm k, .bool true] := he3
      obtain ⟨rfl, rfl⟩ : g' = g3 ∧ cap' = cap3 := by simpa [decV] using he3'
      have hl9 := heap_lt H1.out
      refine ⟨_, store_runs 99 _ _ rfl g9 #[.int .i64 0, .slice (some ⟨g', 0, none⟩) k cap', .int .i64 rc, .int .i64 rm, .int .i64 k, .int .i64 0, .int .i64 0, .int .i64 0, .bool false, .string ⟨#[]⟩, .int .i64 0, .int .u64 0] rfl rfl 99 _ hblk (by kernel_rfl) rfl (by simp [Value.oneCell']), ?_, setRow_heap W1 g9 _ _ 99 _ hblk, ?_, L, owns_setRow hown hblk (by decide) _, hgr⟩
      · exact (hb0.trans (hb1.mono hb0.size)).trans ⟨rfl, rfl, rfl, by simp [World.setRow], fun q hq => setRow_other W1 g9 q _ (by have := hb0.size; omega)⟩
      · rw [setRow_other W1 g9 _ _ (by omega), hb1.block _ hl9]
        exact H1.out
    refine Mix.x_pur rfl (fun K hK => ?_)
    go_simp
    refine hK _ ?_
    clear hK K
    intro W2 hW2
    obtain ⟨hbF, hd, hz, L, hown, hgr⟩ := hW2
    have HD : Hid _ := hd
    have HOW : Hid _ := hown
    have HGR : Hid _ := hgr
    clear hd hown hgr q0 q1 q2 q3 q4 q5 q6 q7
    have d0 := blk_c HD.out (Below.refl _ _) (i := 0) rfl
    have d1 := blk_c HD.out (Below.refl _ _) (i := 1) rfl
    have d2 := blk_c HD.out (Below.refl _ _) (i := 2) rfl
    have d3 := blk_c HD.out (Below.refl _ _) (i := 3) rfl
    have d4 := blk_c HD.out (Below.refl _ _) (i := 4) rfl
    have d5 := blk_c HD.out (Below.refl _ _) (i := 5) rfl
    have d6 := blk_c HD.out (Below.refl _ _) (i := 6) rfl
    have d7 := blk_c HD.out (Below.refl _ _) (i := 7) rfl
    have d8 := blk_c HD.out (Below.refl _ _) (i := 8) rfl
    have d9 := blk_c HD.out (Below.refl _ _) (i := 9) rfl
    have d10 := blk_c HD.out (Below.refl _ _) (i := 10) rfl
    have d11 := blk_c HD.out (Below.refl _ _) (i := 11) rfl
    have HZ : Hid _ := hz
    have z0 := blk_c hz (Below.refl _ _) (i := 0) rfl
    have y0 := blk_f hz (Below.refl _ _) 0
    have z1 := blk_c hz (Below.refl _ _) (i := 1) rfl
    have y1 := blk_f hz (Below.refl _ _) 1
    have z2 := blk_c hz (Below.refl _ _) (i := 2) rfl
    have y2 := blk_f hz (Below.refl _ _) 2
    have z3 := blk_c hz (Below.refl _ _) (i := 3) rfl
    have y3 := blk_f hz (Below.refl _ _) 3
    have z4 := blk_c hz (Below.refl _ _) (i := 4) rfl
    have y4 := blk_f hz (Below.refl _ _) 4
    have z5 := blk_c hz (Below.refl _ _) (i := 5) rfl
    have y5 := blk_f hz (Below.refl _ _) 5
    have z6 := blk_c hz (Below.refl _ _) (i := 6) rfl
    have y6 := blk_f hz (Below.refl _ _) 6
    have z7 := blk_c hz (Below.refl _ _) (i := 7) rfl
    have y7 := blk_f hz (Below.refl _ _) 7
    have z8 := blk_c hz (Below.refl _ _) (i := 8) rfl
    have y8 := blk_f hz (Below.refl _ _) 8
    have z9 := blk_c hz (Below.refl _ _) (i := 9) rfl
    have y9 := blk_f hz (Below.refl _ _) 9
    clear hz
    show Exit.then _ _ _ _ _
    go_upto_region 2 with fail
    go_region
    go_wp2_with fail
    refine bodyPost_ret (v := .tuple #[grantV 0 (.slice (some ⟨g', 0, none⟩) k cap') rc rm k, .int .i64 0, .bool true]) (by simp [results, Tryz.results11, go_sem, grantV, z0, z1, z2, z3, z4, z5, z6, z7, z8, z9]) rfl ⟨?_, .inl ⟨HFT.out, g', cap', L, rfl, ?_, HGR.out⟩⟩
    · refine below_drew ?_
      iterate 10 refine RowKit.Below.setCell ?_ (Nat.le_succ _) _
      exact hbF
    · have hne : ∀ q, Value.ownBlock (.slice (some ⟨g', 0, none⟩) k cap') = some q → q ≠ w.heap.size + 1 := owns_ne HOW.out HZ.out (by decide)
      refine owns_drew ?_
      iterate 10 refine owns_setCell ?_ hne
      exact HOW.out
  · have HFT : Hid _ := hfit
    refine Mix.wp_region_mix (Mix.mkKd [(3, .mk (fun u => u = .pointer (some ⟨s, 0, none⟩)) (fun _ _ => True) []), (7, .mk (fun u => u = .tuple #[decV 0 (.slice none 0 0) 0 0 0, .bool false]) (fun _ _ => True) []), (8, .pur), (9, .pur), (10, .pur), (11, .mk (fun u => ∃ g : Nat, u = .pointer (some ⟨g, 0, none⟩)) (newBlock W #[.int .i64 0, .slice none 0 0, .int .i64 0, .int .i64 0, .int .i64 0, .int .i64 0, .int .i64 0, .int .i64 0, .bool false, .string ⟨#[]⟩, .int .i64 0, .int .u64 0] 99) []), (12, .wr), (13, .pur)]) (by kernel_rfl) (by kernel_rfl) (Mix.makers_of ?_) ?_
    · intro p hp
      simp only [List.mem_cons, List.not_mem_nil, or_false] at hp
      rcases hp with rfl | rfl | rfl | rfl | rfl | rfl | rfl | rfl
      · exact ⟨fun _ _ _ _ _ => trivial, _, _, rfl, rfl, by simp⟩
      · exact ⟨fun _ _ _ _ _ => trivial, _, _, rfl, rfl, by simp⟩
      · trivial
      · trivial
      · trivial
      · exact ⟨newBlock_lasts _ _ _, _, _, rfl, rfl, by simp⟩
      · trivial
      · trivial
    iterate 3
      refine Mix.x_det rfl (fun K hK => ?_)
      go_simp
      refine hK _ ?_
      clear hK K
    refine Mix.x_mk _ _ _ rfl rfl (.pointer (some ⟨s, 0, none⟩)) rfl (fun p _ => ?_) ?_
    · go_simp
      refine (loadShelf l 2 s _ cs (cell_regrown HL.out p.d p.os) ((below_regrown W p.d p.os).block s (heap_lt HS.out) |>.trans HS.out) hcs).mono ?_
      rintro e w'' ⟨rfl, rfl⟩
      simpa using Below.refl _ _
    rintro u rfl
    iterate 3
      refine Mix.x_det rfl (fun K hK => ?_)
      go_simp
      refine hK _ ?_
      clear hK K
    refine Mix.x_mk _ _ _ rfl rfl (.tuple #[decV 0 (.slice none 0 0) 0 0 0, .bool false]) rfl (fun p _ => ?_) ?_
    · go_simp
      refine (choose1 s m b cpu mem rc rm k across ps fr _ (HN.out.below (below_regrown W p.d p.os)) (HB.out.below (below_regrown W p.d p.os)) ?_ hc0 hc1 hm0 hm1 hk2 hfl hpl hF).mono ?_
      · obtain ⟨vg, vo, vc, v1, v2⟩ := HV.out
        exact ⟨vg, vo, vc, cell_regrown v1 p.d p.os, cell_regrown v2 p.d p.os⟩
      · skip
        rintro e w'' ⟨hbe, ⟨hn, _⟩ | ⟨_, rfl⟩⟩
        · exact absurd hn HFT.out
        · simpa using hbe
    rintro u rfl
    iterate 3
      refine Mix.x_pur rfl (fun K hK => ?_)
      go_simp
      refine hK _ ?_
      clear hK K
    refine Mix.x_mk _ _ _ rfl rfl (.pointer (some ⟨0, 0, none⟩)) ⟨0, rfl⟩ (fun p _ => ?_) ?_
    · go_simp
      exact newBlock_alloc' _ _ _ _
    rintro u ⟨g9, rfl⟩
    refine Mix.x_wr (AfterDec w g9 (.slice none 0 0) 0 0 0 (fun _ => True)) rfl rfl ?_ ?_
    · intro W1 hW1
      obtain ⟨hb1, hk1⟩ := hW1
      obtain ⟨g2, he2, hg2, hblk⟩ := hk1 11 _ _ _ _ rfl rfl rfl
      have he2' : Value.pointer (some ⟨g9, 0, none⟩) = .pointer (some ⟨g2, 0, none⟩) := he2
      obtain rfl : g9 = g2 := by simpa using he2'
      have hl9 := heap_lt H1.out
      refine ⟨_, store_runs 99 _ _ rfl g9 #[.int .i64 0, .slice none 0 0, .int .i64 0, .int .i64 0, .int .i64 0, .int .i64 0, .int .i64 0, .int .i64 0, .bool false, .string ⟨#[]⟩, .int .i64 0, .int .u64 0] rfl rfl 99 _ hblk (by kernel_rfl) rfl (by simp [Value.oneCell']), ?_, setRow_heap W1 g9 _ _ 99 _ hblk, ?_, trivial⟩
      · exact (hb0.trans (hb1.mono hb0.size)).trans ⟨rfl, rfl, rfl, by simp [World.setRow], fun q hq => setRow_other W1 g9 q _ (by have := hb0.size; omega)⟩
      · rw [setRow_other W1 g9 _ _ (by omega), hb1.block _ hl9]
        exact H1.out
    refine Mix.x_pur rfl (fun K hK => ?_)
    go_simp
    refine hK _ ?_
    clear hK K
    intro W2 hW2
    obtain ⟨hbF, hd, hz, -⟩ := hW2
    have HD : Hid _ := hd
    clear hd q0 q1 q2 q3 q4 q5 q6 q7
    have d0 := blk_c HD.out (Below.refl _ _) (i := 0) rfl
    have d1 := blk_c HD.out (Below.refl _ _) (i := 1) rfl
    have d2 := blk_c HD.out (Below.refl _ _) (i := 2) rfl
    have d3 := blk_c HD.out (Below.refl _ _) (i := 3) rfl
    have d4 := blk_c HD.out (Below.refl _ _) (i := 4) rfl
    have d5 := blk_c HD.out (Below.refl _ _) (i := 5) rfl
    have d6 := blk_c HD.out (Below.refl _ _) (i := 6) rfl
    have d7 := blk_c HD.out (Below.refl _ _) (i := 7) rfl
    have d8 := blk_c HD.out (Below.refl _ _) (i := 8) rfl
    have d9 := blk_c HD.out (Below.refl _ _) (i := 9) rfl
    have d10 := blk_c HD.out (Below.refl _ _) (i := 10) rfl
    have d11 := blk_c HD.out (Below.refl _ _) (i := 11) rfl
    have z0 := blk_c hz (Below.refl _ _) (i := 0) rfl
    have y0 := blk_f hz (Below.refl _ _) 0
    have z1 := blk_c hz (Below.refl _ _) (i := 1) rfl
    have y1 := blk_f hz (Below.refl _ _) 1
    have z2 := blk_c hz (Below.refl _ _) (i := 2) rfl
    have y2 := blk_f hz (Below.refl _ _) 2
    have z3 := blk_c hz (Below.refl _ _) (i := 3) rfl
    have y3 := blk_f hz (Below.refl _ _) 3
    have z4 := blk_c hz (Below.refl _ _) (i := 4) rfl
    have y4 := blk_f hz (Below.refl _ _) 4
    have z5 := blk_c hz (Below.refl _ _) (i := 5) rfl
    have y5 := blk_f hz (Below.refl _ _) 5
    have z6 := blk_c hz (Below.refl _ _) (i := 6) rfl
    have y6 := blk_f hz (Below.refl _ _) 6
    have z7 := blk_c hz (Below.refl _ _) (i := 7) rfl
    have y7 := blk_f hz (Below.refl _ _) 7
    have z8 := blk_c hz (Below.refl _ _) (i := 8) rfl
    have y8 := blk_f hz (Below.refl _ _) 8
    have z9 := blk_c hz (Below.refl _ _) (i := 9) rfl
    have y9 := blk_f hz (Below.refl _ _) 9
    clear hz
    show Exit.then _ _ _ _ _
    go_upto_region 2 with fail
    go_region
    go_wp2_with fail
    refine bodyPost_ret (v := .tuple #[grantV 0 (.slice none 0 0) 0 0 0, .int .i64 0, .bool false]) (by simp [results, Tryz.results11, go_sem, grantV, z0, z1, z2, z3, z4, z5, z6, z7, z8, z9]) rfl ⟨?_, .inr ⟨HFT.out, rfl⟩⟩
    refine below_drew ?_
    iterate 10 refine RowKit.Below.setCell ?_ (Nat.le_succ _) _
    exact hbF


end Go.Proofs.Qxb6612460aGreatFmt
