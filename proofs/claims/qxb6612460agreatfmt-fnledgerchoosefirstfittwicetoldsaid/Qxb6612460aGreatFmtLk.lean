/-
  The lock and the list of the ledger's recall.
-/
import Derived.Test.Qxb6612460aGreatFmtNewQ
import Derived.Conc.MuLone
import Derived.Defers
import Derived.KernelRfl
import Derived.LaidEqlPtr
namespace Go.Proofs
abbrev Tryz.muLink : Go.Conc.Locks.MuLink := { lock := 60, unlock := 61, ilock := 73, iunlock := 74, lockSlow := 90, unlockSlow := 93, disable := 86, enable := 88, acquire := 89, relMerge := 91, cas32 := 87, add32 := 92, tMutex := 80, tIMutex := 78, tPMutex := 201, tPIMutex := 217, tPI32 := 219, tUP := 83, tNoCopy := 75, tU32 := 76 }
theorem Tryz.muLib : Go.Conc.Locks.MuLib Tryz.prog Tryz.muLink :=
  ⟨Tryz.func60, Tryz.func61, Tryz.func73, Tryz.func74, Tryz.func86, Tryz.func88, Tryz.func89, Tryz.func91, Tryz.func87, Tryz.func92, Tryz.underlying78, Tryz.runUnderlying78, Tryz.sizeOf78, Tryz.isAgg78, Tryz.zeroValue78, Tryz.underlying80, Tryz.runUnderlying80, Tryz.sizeOf80, Tryz.isAgg80, Tryz.zeroValue80, Tryz.underlying201, Tryz.runUnderlying201, Tryz.sizeOf201, Tryz.isAgg201, Tryz.zeroValue201, Tryz.underlying217, Tryz.runUnderlying217, Tryz.sizeOf217, Tryz.isAgg217, Tryz.zeroValue217, Tryz.underlying219, Tryz.runUnderlying219, Tryz.sizeOf219, Tryz.isAgg219, Tryz.zeroValue219, Tryz.underlying83, Tryz.runUnderlying83, Tryz.sizeOf83, Tryz.isAgg83, Tryz.zeroValue83, Tryz.underlying75, Tryz.runUnderlying75, Tryz.sizeOf75, Tryz.isAgg75, Tryz.zeroValue75, Tryz.underlying21, Tryz.runUnderlying21, Tryz.sizeOf21, Tryz.isAgg21, Tryz.zeroValue21, (by kernel_rfl)⟩
end Go.Proofs
namespace Go.Proofs.Qxb6612460aGreatFmt
open Go.RowKit Go.Sort Go.MuLone
attribute [local go_sem] Option.isNone_none Option.isNone_some
attribute [local go_sem] sUpon mUpon
attribute [local go_sem] Mix.isVal Mix.makes

/-- The ledger's cells. -/
def ledC (st mu : Int) (ps mp nx pv : Value) (len : Int) : Array Value := #[.int .i32 st, .int .u32 0, ps, .int .i32 mu, .int .u32 0, mp, nx, pv, .pointer none, .nilIface, .int .i64 len]

theorem Tryz.info90s : (Tryz.prog.info? 90).isSome = true := by kernel_rfl
theorem Tryz.info92s : (Tryz.prog.info? 92).isSome = true := by kernel_rfl
theorem Tryz.info55s : (Tryz.prog.info? 55).isSome = true := by kernel_rfl
theorem neq_ptr_same {tp te : TypeId} {j : TypeInfo} (w : World) (a : Addr) (hp : Tryz.prog.underlying tp = some (.pointer te)) (hte : Tryz.prog.info? te = some j) :
    (binOp .neq tp (.pointer (some a)) (.pointer (some a))).run Tryz.prog w = .ok (.bool false) w := by
  have h : ∀ d : Nat, (Op.equalIn (d + 1) tp (.pointer (some a)) (.pointer (some a))).run Tryz.prog w = .ok true w := fun d => by
    simp [Op.equalIn, run_underlying hp, sizeOf, typeInfo, hte, run_sameAddr_same]
  simp only [binOp]
  simp [Op.equal, Op.maxDepth, h 9999]
theorem neq_nil_ptr {tp te : TypeId} (w : World) (a : Addr) (hp : Tryz.prog.underlying tp = some (.pointer te)) :
    (binOp .neq tp (.pointer none) (.pointer (some a))).run Tryz.prog w = .ok (.bool true) w := by
  have h : ∀ d : Nat, (Op.equalIn (d + 1) tp (.pointer none) (.pointer (some a))).run Tryz.prog w = .ok false w := fun d => by
    simp [Op.equalIn, run_underlying hp, sizeOf, typeInfo, samePointer]
  simp only [binOp]
  simp [Op.equal, Op.maxDepth, h 9999]
abbrev rootP (l : Nat) : Value := .pointer (some ⟨l, 6, none⟩)
set_option maxRecDepth 100000 in
set_option maxHeartbeats 4000000 in
theorem listInit (l : Nat) (st mu : Int) (ps mp nx pv : Value) (len : Int) (w : World) (hb : w.heap[l]? = some (.cells (ledC st mu ps mp nx pv len) 96 (0, 0))) :
    Calls Tryz.prog 95 #[.pointer (some ⟨l, 6, none⟩)] w fun e w' => e = .returned (.pointer (some ⟨l, 6, none⟩)) ∧ OnlyS [l] w w' ∧ w'.heap[l]? = some (.cells (ledC st mu ps mp (rootP l) (rootP l) 0) 96 (0, 0)) := by
  unfold ledC at hb ⊢
  have HB : Hid _ := hb
  have c6 := blk_c HB.out (Below.refl _ _) (i := 6) rfl
  have c7 := blk_c HB.out (Below.refl _ _) (i := 7) rfl
  have c10 := blk_c HB.out (Below.refl _ _) (i := 10) rfl
  have f6 := blk_f HB.out (Below.refl _ _) 6
  have f7 := blk_f HB.out (Below.refl _ _) 7
  have f10 := blk_f HB.out (Below.refl _ _) 10
  clear hb
  go_enter Tryz.func95, Tryz.ntmps95
  go_wp2_with fail
  go_ret
  exact ⟨rfl, (((OnlyS.refl _ _).setCell (.inl (by simp)) _).setCell (.inl (by simp)) _).setCell (.inl (by simp)) _, setCell_blk (setCell_blk (setCell_blk HB.out _) _) _⟩

set_option maxRecDepth 100000 in
set_option maxHeartbeats 4000000 in
theorem lazyInit (l : Nat) (st mu : Int) (ps mp pv : Value) (len : Int) (w : World) (hb : w.heap[l]? = some (.cells (ledC st mu ps mp (.pointer none) pv len) 96 (0, 0))) :
    Calls Tryz.prog 79 #[.pointer (some ⟨l, 6, none⟩)] w fun e w' => e = .returned (.tuple #[]) ∧ OnlyS [l] w w' ∧ w'.heap[l]? = some (.cells (ledC st mu ps mp (rootP l) (rootP l) 0) 96 (0, 0)) := by
  have HB : Hid _ := hb
  have c6 := blk_c HB.out (Below.refl _ _) (i := 6) rfl
  have c6' : w.cell? ⟨l, 6, none⟩ = some (.pointer none) := c6
  clear hb c6
  go_enter Tryz.func79, Tryz.ntmps79
  go_wp2_with fail
  refine (listInit l st mu ps mp _ _ _ w HB.out).mono ?_
  rintro e w' ⟨rfl, h1, h2⟩
  have H1 : Hid _ := h1
  have H2 : Hid _ := h2
  clear h1 h2 c6'
  go_wp2_with fail
  go_end0
  exact ⟨rfl, H1.out, H2.out⟩

set_option maxRecDepth 100000 in
set_option maxHeartbeats 4000000 in
theorem listInsert (l g : Nat) (st mu : Int) (ps mp : Value) (f : Nat) (w : World) (hb : w.heap[l]? = some (.cells (ledC st mu ps mp (rootP l) (rootP l) 0) 96 (0, 0))) (hg : w.heap[g]? = some (.cells #[.pointer none, .pointer none, .pointer none, .iface 119 (.pointer (some ⟨f, 0, none⟩))] 90 (0, 0))) (hne : g ≠ l) :
    Calls Tryz.prog 96 #[.pointer (some ⟨l, 6, none⟩), .pointer (some ⟨g, 0, none⟩), .pointer (some ⟨l, 6, none⟩)] w fun e w' => e = .returned (.pointer (some ⟨g, 0, none⟩)) ∧ OnlyS [l, g] w w' ∧ w'.heap[l]? = some (.cells (ledC st mu ps mp (.pointer (some ⟨g, 0, none⟩)) (.pointer (some ⟨g, 0, none⟩)) 1) 96 (0, 0)) ∧ w'.heap[g]? = some (.cells #[rootP l, rootP l, rootP l, .iface 119 (.pointer (some ⟨f, 0, none⟩))] 90 (0, 0)) := by
  unfold ledC at hb ⊢
  have HB : Hid _ := hb
  have HG : Hid _ := hg
  have c6 := blk_c HB.out (Below.refl _ _) (i := 6) rfl
  have c7 := blk_c HB.out (Below.refl _ _) (i := 7) rfl
  have c10 := blk_c HB.out (Below.refl _ _) (i := 10) rfl
  have f6 := blk_f HB.out (Below.refl _ _) 6
  have f7 := blk_f HB.out (Below.refl _ _) 7
  have f10 := blk_f HB.out (Below.refl _ _) 10
  have e0 := blk_c HG.out (Below.refl _ _) (i := 0) rfl
  have e1 := blk_c HG.out (Below.refl _ _) (i := 1) rfl
  have e2 := blk_c HG.out (Below.refl _ _) (i := 2) rfl
  have k0 := blk_f HG.out (Below.refl _ _) 0
  have k1 := blk_f HG.out (Below.refl _ _) 1
  have k2 := blk_f HG.out (Below.refl _ _) 2
  have hne' : l ≠ g := Ne.symm hne
  clear hb hg
  go_enter Tryz.func96, Tryz.ntmps96
  go_wp2_with fail
  go_ret
  have o : ∀ {a : Addr} {x : Value} {W : World} {q : Nat} {ob : Obj}, q ≠ a.block → W.heap[q]? = some ob → (W.setCell a x).heap[q]? = some ob := fun h1 h2 => (Below.heap_setCell _ _ _ _ h1).trans h2
  refine ⟨rfl, ?_, setCell_blk (o hne' (setCell_blk (setCell_blk (o hne' (o hne' HB.out)) _) _)) _, o hne (setCell_blk (o hne (o hne (setCell_blk (setCell_blk HG.out _) _))) _)⟩
  iterate 6 refine OnlyS.setCell ?_ (.inl (by simp)) _
  exact OnlyS.refl _ _

set_option maxRecDepth 100000 in
set_option maxHeartbeats 4000000 in
theorem insertValue (l : Nat) (st mu : Int) (ps mp : Value) (f : Nat) (w : World) (hb : w.heap[l]? = some (.cells (ledC st mu ps mp (rootP l) (rootP l) 0) 96 (0, 0))) :
    Calls Tryz.prog 80 #[.pointer (some ⟨l, 6, none⟩), .iface 119 (.pointer (some ⟨f, 0, none⟩)), .pointer (some ⟨l, 6, none⟩)] w fun e w' => ∃ g, e = .returned (.pointer (some ⟨g, 0, none⟩)) ∧ w.heap.size ≤ g ∧ OnlyS [l] w w' ∧ w'.heap[l]? = some (.cells (ledC st mu ps mp (.pointer (some ⟨g, 0, none⟩)) (.pointer (some ⟨g, 0, none⟩)) 1) 96 (0, 0)) ∧ w'.heap[g]? = some (.cells #[rootP l, rootP l, rootP l, .iface 119 (.pointer (some ⟨f, 0, none⟩))] 90 (0, 0)) := by
  have HB : Hid _ := hb
  have hlt := heap_lt hb
  clear hb
  go_enter Tryz.func80, Tryz.ntmps80
  go_wp2_with fail
  have hb1 : Below w.heap.size w (w.alloc (.cells #[.pointer none, .pointer none, .pointer none, .iface 119 (.pointer (some ⟨f, 0, none⟩))] 90)) := below_alloc1 _ _
  have HG : Hid ((w.alloc (.cells #[.pointer none, .pointer none, .pointer none, .iface 119 (.pointer (some ⟨f, 0, none⟩))] 90)).heap[w.heap.size]? = some (.cells #[.pointer none, .pointer none, .pointer none, .iface 119 (.pointer (some ⟨f, 0, none⟩))] 90 (0, 0))) := heap_alloc_new w _
  have HB1 : Hid ((w.alloc (.cells #[.pointer none, .pointer none, .pointer none, .iface 119 (.pointer (some ⟨f, 0, none⟩))] 90)).heap[l]? = some (.cells (ledC st mu ps mp (rootP l) (rootP l) 0) 96 (0, 0))) := alloc_blk HB.out _
  generalize hW : w.alloc (.cells #[.pointer none, .pointer none, .pointer none, .iface 119 (.pointer (some ⟨f, 0, none⟩))] 90) = W at *
  clear hW
  refine (listInsert l w.heap.size st mu ps mp f W HB1.out HG.out (by omega)).mono ?_
  rintro e w' ⟨rfl, h1, h2, h3⟩
  have H1 : Hid (OnlyS [l] w w') := ⟨h1.os.trans hb1.os, h1.tape.trans hb1.tape, h1.output.trans hb1.output, Nat.le_trans hb1.size h1.size, fun q hq hne => (h1.block q (by have := hb1.size; omega) (by simp only [List.mem_cons, List.not_mem_nil, or_false, not_or] at hne ⊢; exact ⟨hne, by omega⟩)).trans (hb1.block q hq)⟩
  have H2 : Hid _ := h2
  have H3 : Hid _ := h3
  clear h1 h2 h3
  go_wp2_with fail
  go_ret
  exact ⟨_, rfl, Nat.le_refl _, H1.out, H2.out, H3.out⟩

set_option maxRecDepth 100000 in
set_option maxHeartbeats 4000000 in
/-- PushFront on the empty list of a ledger. -/
theorem pushFront (l : Nat) (st mu : Int) (ps mp : Value) (f : Nat) (w : World) (hb : w.heap[l]? = some (.cells (ledC st mu ps mp (.pointer none) (.pointer none) 0) 96 (0, 0))) :
    Calls Tryz.prog 63 #[.pointer (some ⟨l, 6, none⟩), .iface 119 (.pointer (some ⟨f, 0, none⟩))] w fun e w' => ∃ g, e = .returned (.pointer (some ⟨g, 0, none⟩)) ∧ w.heap.size ≤ g ∧ OnlyS [l] w w' ∧ w'.heap[l]? = some (.cells (ledC st mu ps mp (.pointer (some ⟨g, 0, none⟩)) (.pointer (some ⟨g, 0, none⟩)) 1) 96 (0, 0)) ∧ w'.heap[g]? = some (.cells #[rootP l, rootP l, rootP l, .iface 119 (.pointer (some ⟨f, 0, none⟩))] 90 (0, 0)) := by
  have HB : Hid _ := hb
  clear hb
  go_enter Tryz.func63, Tryz.ntmps63
  go_wp2_with fail
  refine (lazyInit l st mu ps mp _ _ w HB.out).mono ?_
  rintro e W ⟨rfl, h1, h2⟩
  have H1 : Hid _ := h1
  have H2 : Hid _ := h2
  clear h1 h2
  go_wp2_with fail
  refine (insertValue l st mu ps mp f W H2.out).mono ?_
  rintro e w' ⟨g, rfl, h0, h1, h2, h3⟩
  have H3 : Hid (OnlyS [l] w w') := H1.out.trans h1
  have H4 : Hid _ := h2
  have H5 : Hid _ := h3
  have h00 : w.heap.size ≤ g := Nat.le_trans H1.out.size h0
  clear h1 h2 h3
  go_wp2_with fail
  go_ret
  exact ⟨_, rfl, h00, H3.out, H4.out, H5.out⟩

set_option maxRecDepth 100000 in
set_option maxHeartbeats 4000000 in
/-- MoveToFront of the element at the front. -/
theorem moveToFront (l g : Nat) (w : World) (h0 : w.cell? ⟨l, 6, none⟩ = some (.pointer (some ⟨g, 0, none⟩))) (h1 : w.cell? ⟨g, 2, none⟩ = some (.pointer (some ⟨l, 6, none⟩))) :
    Calls Tryz.prog 64 #[.pointer (some ⟨l, 6, none⟩), .pointer (some ⟨g, 0, none⟩)] w fun e w' => e = .returned (.tuple #[]) ∧ w = w' := by
  obtain ⟨j90, hj90⟩ := Option.isSome_iff_exists.1 Tryz.info90s
  obtain ⟨j92, hj92⟩ := Option.isSome_iff_exists.1 Tryz.info92s
  have q88 : ∀ (w : World) (a : Addr), (binOp .neq 88 (.pointer (some a)) (.pointer (some a))).run Tryz.prog w = .ok (.bool false) w := fun w a => neq_ptr_same w a Tryz.underlying88 hj92
  have q87 : ∀ (w : World) (a : Addr), (binOp .eql 87 (.pointer (some a)) (.pointer (some a))).run Tryz.prog w = .ok (.bool true) w := fun w a => run_eql_ptr_same w a Tryz.underlying87 hj90
  go_enter Tryz.func64, Tryz.ntmps64
  go_wp2_with fail
  first | go_end0 | refine bodyPost_ret (results_none rfl _ _ _) rfl ?_
  exact ⟨rfl, rfl⟩

set_option maxRecDepth 100000 in
set_option maxHeartbeats 4000000 in
theorem listLen (l : Nat) (x : Int) (w : World) (h0 : w.cell? ⟨l, 10, none⟩ = some (.int .i64 x)) :
    Calls Tryz.prog 75 #[.pointer (some ⟨l, 6, none⟩)] w fun e w' => e = .returned (.int .i64 x) ∧ w = w' := by
  go_enter Tryz.func75, Tryz.ntmps75
  go_wp2_with fail
  go_ret
  exact ⟨rfl, rfl⟩

set_option maxRecDepth 100000 in
set_option maxHeartbeats 4000000 in
/-- give: the findings are kept for the next. -/
theorem giveD (l f : Nat) (lc fc : Array Value) (u : FrameMode) (w : World) (hl : w.heap[l]? = some (.cells lc 96 (0, 0))) (h3 : lc[3]? = some (.int .i32 0)) (hf : w.heap[f]? = some (.cells fc 165 (0, 0))) (hfs : fc.size = 13) (hne : f ≠ l) :
    CallsD Tryz.prog 41 #[.pointer (some ⟨l, 3, none⟩), .pointer (some ⟨f, 0, none⟩)] u w fun e u' w' => u' = u ∧ (e = .returned (.tuple #[]) ∧ OnlyS [l, f] w w' ∧ w.heap.size = w'.heap.size ∧ w'.heap[l]? = some (.cells lc 96 (0, 0)) ∧ w'.heap[f]? = some (.cells (fc.setIfInBounds 12 (.bool false)) 165 (0, 0))) := by
  have HL : Hid _ := hl
  have HF : Hid _ := hf
  have c3 : w.cell? ⟨l, 3, none⟩ = some (.int .i32 0) := blk_c HL.out (Below.refl _ _) h3
  have f3 := blk_f HL.out (Below.refl _ _) 3
  have c12 : w.cell? ⟨f, 12, none⟩ = some fc[12] := blk_c HF.out (Below.refl _ _) (Array.getElem?_eq_getElem (by omega))
  have f12 := blk_f HF.out (Below.refl _ _) 12
  have hne' : l ≠ f := Ne.symm hne
  clear hl hf
  go_enter_d Tryz.func41, Tryz.ntmps41
  go_wp2_with (go_at_call 60; refine (lock_free Tryz.muLib ⟨l, 3, none⟩ _ c3 f3).mono ?_; rintro e w' ⟨rfl, rfl⟩)
  refine (unlock_held Tryz.muLib ⟨l, 3, none⟩ _ ?_ ?_).mono ?_
  · exact (World.cell?_setCell_other _ ⟨f, 12, none⟩ ⟨l, 3, none⟩ _ (by simp)).trans (World.cell?_setCell_same w ⟨l, 3, none⟩ (.int .i32 1) c3)
  · simp [f3]
  rintro e w' ⟨rfl, rfl⟩
  have o : ∀ {a : Addr} {x : Value} {W : World} {q : Nat} {ob : Obj}, q ≠ a.block → W.heap[q]? = some ob → (W.setCell a x).heap[q]? = some ob := fun h1 h2 => (Below.heap_setCell _ _ _ _ h1).trans h2
  have HA : Hid ((((w.setCell ⟨l, 3, none⟩ (.int .i32 1)).setCell ⟨f, 12, none⟩ (.bool false)).setCell ⟨l, 3, none⟩ (.int .i32 0)).heap[l]? = some (.cells lc 96 (0, 0))) := by
    have h1 : (((w.setCell ⟨l, 3, none⟩ (.int .i32 1)).setCell ⟨f, 12, none⟩ (.bool false)).setCell ⟨l, 3, none⟩ (.int .i32 0)).heap[l]? = _ := setCell_blk (o hne' (setCell_blk HL.out (.int .i32 1))) (.int .i32 0)
    have h2 : (lc.setIfInBounds 3 (.int .i32 1)).setIfInBounds 3 (.int .i32 0) = lc := by
      rw [Array.setIfInBounds_setIfInBounds]
      apply Array.ext_getElem?
      intro i
      rw [Array.getElem?_setIfInBounds]
      split
      · rename_i he
        subst he
        rw [h3]
        have := (Array.getElem?_eq_some_iff.1 h3).1
        simp [this]
      · rfl
    rw [h2] at h1
    exact h1
  have HBf : Hid ((((w.setCell ⟨l, 3, none⟩ (.int .i32 1)).setCell ⟨f, 12, none⟩ (.bool false)).setCell ⟨l, 3, none⟩ (.int .i32 0)).heap[f]? = some (.cells (fc.setIfInBounds 12 (.bool false)) 165 (0, 0))) := o hne (setCell_blk (o hne HF.out) _)
  have HO : Hid (OnlyS [l, f] w (((w.setCell ⟨l, 3, none⟩ (.int .i32 1)).setCell ⟨f, 12, none⟩ (.bool false)).setCell ⟨l, 3, none⟩ (.int .i32 0))) := (((OnlyS.refl _ _).setCell (.inl (by simp)) _).setCell (.inl (by simp)) _).setCell (.inl (by simp)) _
  have HZ : Hid (w.heap.size = (((w.setCell ⟨l, 3, none⟩ (.int .i32 1)).setCell ⟨f, 12, none⟩ (.bool false)).setCell ⟨l, 3, none⟩ (.int .i32 0)).heap.size) := by show _ = _; simp [World.setCell]
  generalize hW : ((w.setCell ⟨l, 3, none⟩ (.int .i32 1)).setCell ⟨f, 12, none⟩ (.bool false)).setCell ⟨l, 3, none⟩ (.int .i32 0) = W at *
  clear hW
  go_wp2_with fail
  go_end0
  exact ⟨rfl, HO.out, HZ.out, HA.out, HBf.out⟩

end Go.Proofs.Qxb6612460aGreatFmt
