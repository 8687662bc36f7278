/-
  take: the findings of a request.
-/
import Derived.Test.Qxb6612460aGreatFmtMapsA
import Derived.Laws.CopyRow
namespace Go.Proofs.Qxb6612460aGreatFmt
open Go.RowKit Go.Sort Go.MuLone
attribute [local go_sem] Option.isNone_none Option.isNone_some
attribute [local go_sem] sUpon mUpon
attribute [local go_sem] Mix.isVal Mix.makes

theorem Tryz.info168 : (Tryz.prog.info? 168).map (fun i => (i.zero, i.size, i.bytes)) = some (some (.agg #[.int .u8 0, .int .i64 0, .int .u64 0]), 3, 24) := by kernel_rfl
/-- A row of findings: found, cost; no version. -/
def keptCells : List (Nat × Int) → List Value
  | [] => []
  | x :: r => [.int .u8 (x.1 : Nat), .int .i64 x.2, .int .u64 0] ++ keptCells r
theorem keptCells_length : ∀ ds : List (Nat × Int), (keptCells ds).length = ds.length * 3
  | [] => rfl
  | d :: r => by simp [keptCells, keptCells_length r]; omega
theorem keptCells_at : ∀ (ds : List (Nat × Int)) (i : Nat) (d : Nat × Int), ds[i]? = some d → (keptCells ds)[i * 3]? = some (.int .u8 (d.1 : Nat)) ∧ (keptCells ds)[i * 3 + 1]? = some (.int .i64 d.2) ∧ (keptCells ds)[i * 3 + 2]? = some (.int .u64 0)
  | [], i, d, h => by simp at h
  | x :: r, 0, d, h => by
    simp only [List.getElem?_cons_zero, Option.some.injEq] at h
    subst h
    simp [keptCells]
  | x :: r, i + 1, d, h => by
    have := keptCells_at r i d (by simpa using h)
    have e1 : (i + 1) * 3 = i * 3 + 3 := by omega
    have e2 : i * 3 + 3 + 1 = (i * 3 + 1) + 3 := by omega
    have e3 : i * 3 + 3 + 2 = (i * 3 + 2) + 3 := by omega
    rw [e1, e2, e3]
    simpa [keptCells] using this
theorem keptCells_set : ∀ (l : List (Nat × Int)) (j : Nat) (d : Nat × Int), j < l.length →
    (((keptCells l).set (j * 3) (.int .u8 (d.1 : Nat))).set (j * 3 + 1) (.int .i64 d.2)).set (j * 3 + 2) (.int .u64 0) = keptCells (l.set j d)
  | [], j, d, h => by simp at h
  | x :: r, 0, d, _ => by simp [keptCells]
  | x :: r, j + 1, d, h => by
    have ih := keptCells_set r j d (by simpa using h)
    have e0 : (j + 1) * 3 = j * 3 + 3 := by omega
    rw [e0]
    have e1 : j * 3 + 3 + 1 = (j * 3 + 1) + 3 := by omega
    have e2 : j * 3 + 3 + 2 = (j * 3 + 2) + 3 := by omega
    rw [e1, e2]
    simp only [keptCells, List.cons_append, List.nil_append, List.set_cons_succ, ih]
theorem keptCells_snoc : ∀ (l : List (Nat × Int)) (d : Nat × Int), keptCells (l ++ [d]) = keptCells l ++ [.int .u8 (d.1 : Nat), .int .i64 d.2, .int .u64 0]
  | [], d => by simp [keptCells]
  | x :: r, d => by simp [keptCells, keptCells_snoc r d]
theorem madeKept : ∀ n : Nat, (madeCells (Value.agg #[.int .u8 0, .int .i64 0, .int .u64 0]).cells (n * 3)).toList = keptCells (List.replicate n (0, 0))
  | 0 => by simp [madeCells, keptCells]
  | n + 1 => by
    have ih := madeKept n
    have e : (n + 1) * 3 = n * 3 + 1 + 1 + 1 := by omega
    have m0 : n * 3 % 3 = 0 := by omega
    have m1 : (n * 3 + 1) % 3 = 1 := by omega
    have m2 : (n * 3 + 1 + 1) % 3 = 2 := by omega
    simp only [madeCells, Array.toList_map, Array.toList_range] at ih ⊢
    rw [e, List.range_succ, List.range_succ, List.range_succ, List.map_append, List.map_append, List.map_append, ih, List.replicate_succ', keptCells_snoc]
    simp [Value.cells, m0, m1, m2]

theorem run_storeVar_part (w : World) (g o : Nat) (t ty : TypeId) (old cells : Array Value) (hg : w.heap[g]? = some (.cells old t (0, 0))) (hi : (Tryz.prog.info? ty).map (·.size) = some cells.size)
    (ho : o + cells.size ≤ old.size) (h1 : cells.all (·.oneCell') = true) :
    (storeVar ty ⟨g, o, none⟩ (.agg cells)).run Tryz.prog w = .ok () (w.setRow g (old.toList.take o ++ cells.toList ++ old.toList.drop (o + cells.size)).toArray) := by
  have := run_storeCells_at (P := Tryz.prog) g o t cells.toList 0 old w hg (by simp; omega) (fun v hv => (Array.all_eq_true_iff_forall_mem.1 h1) v (by simpa using hv))
  simp only [Nat.add_zero, Array.length_toList] at this
  cases hq : Tryz.prog.info? ty with
  | none => simp [hq] at hi
  | some i =>
    have hs : cells.size = i.size := by simp [hq] at hi; omega
    simp [storeVar, sizeOf, typeInfo, hq, Value.cells, hs, this]
/-- A struct stored into a part of a block. -/
theorem wpList_store_part {ops : Array Oper} {rest : List Oper} {o : Oper} {a : Act} {w : World} {Q : Exit → Act → World → Prop} (hgd : o.guard = none) (ty : TypeId) (x y : Operand) (ho : o.op = .store ty x y)
    (g off : Nat) (cells : Array Value) (hx : a.eval x = .pointer (some ⟨g, off, none⟩)) (hy : a.eval y = .agg cells) (t : TypeId) (old new : Array Value) (hg : w.heap[g]? = some (.cells old t (0, 0))) (hi : (Tryz.prog.info? ty).map (·.size) = some cells.size)
    (hsz : off + cells.size ≤ old.size) (h1 : cells.all (·.oneCell') = true) (hnew : (old.toList.take off ++ cells.toList ++ old.toList.drop (off + cells.size)).toArray = new)
    (h : ∀ W, W.heap[g]? = some (.cells new t (0, 0)) → OnlyS [g] w W → W.heap.size = w.heap.size → wpList Tryz.prog ops Q rest (a.put o.dst undef) W) : wpList Tryz.prog ops Q (o :: rest) a w := by
  refine wpList_plain hgd fun K hK => ?_
  have hr := run_storeVar_part w g off t ty old cells hg hi hsz h1
  rw [hnew] at hr
  unfold Oper.wp execOp
  simp only [ho, hx, hy, Instr.storeAt, Instr.sureAddr, Sem.run_bind, Sem.run_pure, Result.andThen_ok, hr]
  exact hK _ _ (h _ (setRow_heap w g old new t _ hg) ⟨rfl, rfl, rfl, by simp [World.setRow], fun k hk hne => setRow_other w g k new (fun e => hne (by simp [e]))⟩ (by simp [World.setRow]))
/-- New blocks may turn. -/
theorem onlyS_new {S T : List Nat} {a c d : World} (h : OnlyS S a c) (k : OnlyS T c d) (hT : ∀ q ∈ T, a.heap.size ≤ q ∨ q ∈ S) : OnlyS S a d :=
  ⟨k.os.trans h.os, k.tape.trans h.tape, k.output.trans h.output, Nat.le_trans h.size k.size, fun q hq hne => (k.block q (Nat.lt_of_lt_of_le hq h.size) (fun e => by rcases hT q e with e' | e'; omega; exact hne e')).trans (h.block q hq hne)⟩
theorem eql86 (w : World) : (binOp .eql 86 (.map none) (.map none)).run Tryz.prog w = .ok (.bool true) w := by kernel_rfl
theorem assert119 (v : Value) (w : World) : (Instr.typeAssert (.iface 119 v) 20 119 false).run Tryz.prog w = .ok v w := by kernel_rfl
/-- What a ledger keeps of one request. -/
structure Kept (w : World) (l : Nat) (ps : Value) (rc rm k sh : Int) (ac : Bool) (n mp el f kg : Nat) (mx td : Value) (busy : Bool) : Prop where
  led : w.heap[l]? = some (.cells #[.int .i32 0, .int .u32 0, ps, .int .i32 0, .int .u32 0, .map (some mp), .pointer (some ⟨el, 0, none⟩), .pointer (some ⟨el, 0, none⟩), .pointer none, .nilIface, .int .i64 1] 96 (0, 0))
  map : w.heap[mp]? = some (.map #[{ key := .agg (askA rc rm k sh ac), val := .pointer (some ⟨el, 0, none⟩), born := 0 }] 1)
  elem : w.heap[el]? = some (.cells #[rootP l, rootP l, rootP l, .iface 119 (.pointer (some ⟨f, 0, none⟩))] 90 (0, 0))
  find : w.heap[f]? = some (.cells #[.int .i64 rc, .int .i64 rm, .int .i64 k, .int .i64 sh, .int .i64 0, .int .i64 0, .bool false, .string ⟨#[]⟩, .bool ac, mx, .slice (some ⟨kg, 0, none⟩) n n, td, .bool busy] 165 (0, 0))

set_option maxRecDepth 100000 in
set_option maxHeartbeats 8000000 in
theorem takeNew (l n : Nat) (ps : Value) (rc rm k sh : Int) (ac : Bool) (w : World) (hl : w.heap[l]? = some (.cells #[.int .i32 0, .int .u32 0, ps, .int .i32 0, .int .u32 0, .map none, .pointer none, .pointer none, .pointer none, .nilIface, .int .i64 0] 96 (0, 0))) (h2 : 2 ≤ n) (h4 : n ≤ 4096) :
    Calls Tryz.prog 40 #[.pointer (some ⟨l, 3, none⟩), .agg (askA rc rm k sh ac), .int .i64 (n : Nat)] w fun e w' => ∃ mp el f kg, e = .returned (.pointer (some ⟨f, 0, none⟩)) ∧ OnlyS [l] w w' ∧ w.heap.size ≤ f ∧ w.heap.size ≤ mp ∧ w.heap.size ≤ el ∧ Kept w' l ps rc rm k sh ac n mp el f kg (.pointer none) (.slice none 0 0) true ∧ w'.ownsRow w.heap.size 168 3 (.slice (some ⟨kg, 0, none⟩) n n) n (keptCells (List.replicate n (0, 0))) := by
  have HL : Hid _ := hl
  have hll := heap_lt hl
  clear hl
  have hn2 : decide ((n : Int) < 2) = false := by simp; omega
  have hlk := lookupA_nil rc rm k sh ac
  go_enter_defers Tryz.func40, Tryz.ntmps40
  have HL0 : Hid ((w.alloc (.cells (askA rc rm k sh ac) 104)).heap[l]? = some (.cells #[.int .i32 0, .int .u32 0, ps, .int .i32 0, .int .u32 0, .map none, .pointer none, .pointer none, .pointer none, .nilIface, .int .i64 0] 96 (0, 0))) := alloc_blk HL.out _
  have HA0 : Hid ((w.alloc (.cells (askA rc rm k sh ac) 104)).heap[w.heap.size]? = some (.cells (askA rc rm k sh ac) 104)) := heap_alloc_new w _
  have O0 : Hid (OnlyS [l] w (w.alloc (.cells (askA rc rm k sh ac) 104))) := OnlyS.of (below_alloc1 _ _)
  have hs0 : w.heap.size < (w.alloc (.cells (askA rc rm k sh ac) 104)).heap.size := by simp
  go_upto_region 3 with fail
  generalize hW : w.alloc (.cells (askA rc rm k sh ac) 104) = W at *
  clear hW
  have c3 := blk_c HL0.out (Below.refl _ _) (i := 3) rfl
  have f3 := blk_f HL0.out (Below.refl _ _) 3
  go_wp2_with (go_at_call 60; refine (lock_free Tryz.muLib ⟨l, 3, none⟩ _ c3 f3).mono ?_; rintro e w' ⟨rfl, rfl⟩)
  have HL1 : Hid ((W.setCell ⟨l, 3, none⟩ (.int .i32 1)).heap[l]? = some (.cells #[.int .i32 0, .int .u32 0, ps, .int .i32 1, .int .u32 0, .map none, .pointer none, .pointer none, .pointer none, .nilIface, .int .i64 0] 96 (0, 0))) := setCell_blk HL0.out _
  have HA1 : Hid ((W.setCell ⟨l, 3, none⟩ (.int .i32 1)).heap[w.heap.size]? = some (.cells (askA rc rm k sh ac) 104)) := (Below.heap_setCell _ _ _ _ (by simp only; omega)).trans HA0.out
  have O1 : Hid (OnlyS [l] w (W.setCell ⟨l, 3, none⟩ (.int .i32 1))) := O0.out.setCell (.inl (by simp)) _
  have hs1 : w.heap.size < (W.setCell ⟨l, 3, none⟩ (.int .i32 1)).heap.size := by simpa [World.setCell] using hs0
  generalize hW1 : W.setCell ⟨l, 3, none⟩ (.int .i32 1) = W1 at *
  clear hW1 c3 f3 HL0 HA0 O0 hs0
  have c5 := blk_c HL1.out (Below.refl _ _) (i := 5) rfl
  have a0 := blk_c HA1.out (Below.refl _ _) (i := 0) rfl
  have a1 := blk_c HA1.out (Below.refl _ _) (i := 1) rfl
  have a2 := blk_c HA1.out (Below.refl _ _) (i := 2) rfl
  have a3 := blk_c HA1.out (Below.refl _ _) (i := 3) rfl
  have a4 := blk_c HA1.out (Below.refl _ _) (i := 4) rfl
  have a5 := blk_c HA1.out (Below.refl _ _) (i := 5) rfl
  have a6 := blk_c HA1.out (Below.refl _ _) (i := 6) rfl
  have a7 := blk_c HA1.out (Below.refl _ _) (i := 7) rfl
  have a8 := blk_c HA1.out (Below.refl _ _) (i := 8) rfl
  go_quiet (fail)
  go_wp2_with fail
  have c10 : W1.cell? ⟨l, 10, none⟩ = some (.int .i64 0) := blk_c HL1.out (Below.refl _ _) (i := 10) rfl
  refine (spareNew l n (W1.drewN _) c10 h2 h4).mono ?_
  clear c10
  rintro e W2 ⟨f, rfl, hf0, hb2, hfb⟩
  have hb2' : Below W1.heap.size W1 W2 := ⟨hb2.os, hb2.tape, hb2.output, hb2.size, hb2.block⟩
  have hf1 : W1.heap.size ≤ f := hf0
  have HL2 : Hid _ := (hb2'.block l (by omega)).trans HL1.out
  have HA2 : Hid _ := (hb2'.block _ hs1).trans HA1.out
  have HF2 : Hid (W2.heap[f]? = some (.cells #[.int .i64 0, .int .i64 0, .int .i64 0, .int .i64 0, .int .i64 0, .int .i64 0, .bool false, .string ⟨#[]⟩, .bool false, .pointer none, .slice none 0 0, .slice none 0 0, .bool false] 165 (0, 0))) := hfb
  have O2 : Hid (OnlyS [l] w W2) := O1.out.trans (OnlyS.of hb2')
  have hfw : w.heap.size < f := by omega
  have hs2 : f < W2.heap.size := heap_lt hfb
  clear hb2 hb2' hfb hf0 HL1 HA1 O1 c5 a0 a1 a2 a3 a4 a5 a6 a7 a8
  have a0 := blk_c HA2.out (Below.refl _ _) (i := 0) rfl
  have a1 := blk_c HA2.out (Below.refl _ _) (i := 1) rfl
  have a2 := blk_c HA2.out (Below.refl _ _) (i := 2) rfl
  have a3 := blk_c HA2.out (Below.refl _ _) (i := 3) rfl
  have a4 := blk_c HA2.out (Below.refl _ _) (i := 4) rfl
  have a5 := blk_c HA2.out (Below.refl _ _) (i := 5) rfl
  have a6 := blk_c HA2.out (Below.refl _ _) (i := 6) rfl
  have a7 := blk_c HA2.out (Below.refl _ _) (i := 7) rfl
  have a8 := blk_c HA2.out (Below.refl _ _) (i := 8) rfl
  go_upto_region 11 with (refine wpList_store_part rfl 104 _ _ rfl f 0 (askA rc rm k sh ac) rfl rfl 165 _ #[.int .i64 rc, .int .i64 rm, .int .i64 k, .int .i64 sh, .int .i64 0, .int .i64 0, .bool false, .string ⟨#[]⟩, .bool ac, .pointer none, .slice none 0 0, .slice none 0 0, .bool false] HF2.out (by kernel_rfl) (by simp) (by simp [Value.oneCell']) rfl ?_; intro W3 hf3 ho3 hz3; have HF3 : Hid (W3.heap[f]? = some (.cells #[.int .i64 rc, .int .i64 rm, .int .i64 k, .int .i64 sh, .int .i64 0, .int .i64 0, .bool false, .string ⟨#[]⟩, .bool ac, .pointer none, .slice none 0 0, .slice none 0 0, .bool false] 165 (0, 0))) := hf3; have OO3 : Hid _ := ho3; have HZ3 : Hid _ := hz3; clear hf3 ho3 hz3)
  have hlf : l ≠ f := by omega
  have HL3 : Hid _ := OO3.out.blk HL2.out (by simp only [List.mem_cons, List.not_mem_nil, or_false]; exact hlf)
  have HA3 : Hid _ := OO3.out.blk HA2.out (by simp only [List.mem_cons, List.not_mem_nil, or_false]; omega)
  have O3 : Hid (OnlyS [l] w W3) := onlyS_new O2.out OO3.out (fun q hq => by simp only [List.mem_cons, List.not_mem_nil, or_false] at hq; omega)
  have hs3 : f < W3.heap.size := by have := HZ3.out; omega
  clear a0 a1 a2 a3 a4 a5 a6 a7 a8 HL2 HF2 O2 HA2 OO3 HZ3
  have hmm := @run_makeMap Tryz.prog
  have q86 := eql86
  have hl3 : l < W3.heap.size := heap_lt HL3.out
  have c5' : (W3.alloc (.map #[] 0)).cell? ⟨l, 5, none⟩ = some (.map none) := blk_c (alloc_blk HL3.out _) (Below.refl _ _) (i := 5) rfl
  have f5' : (W3.alloc (.map #[] 0)).frozen? ⟨l, 5, none⟩ = false := blk_f (alloc_blk HL3.out _) (Below.refl _ _) 5
  have c5 := blk_c HL3.out (Below.refl _ _) (i := 5) rfl
  have f5 := blk_f HL3.out (Below.refl _ _) 5
  go_upto_region 13 with fail
  have HL4 : Hid (((W3.setCell ⟨l, 5, none⟩ (.map (some W3.heap.size))).alloc (.map #[] 0)).heap[l]? = some (.cells #[.int .i32 0, .int .u32 0, ps, .int .i32 1, .int .u32 0, .map (some W3.heap.size), .pointer none, .pointer none, .pointer none, .nilIface, .int .i64 0] 96 (0, 0))) := alloc_blk (setCell_blk HL3.out _) _
  have HA4 : Hid (((W3.setCell ⟨l, 5, none⟩ (.map (some W3.heap.size))).alloc (.map #[] 0)).heap[w.heap.size]? = some (.cells (askA rc rm k sh ac) 104)) := alloc_blk ((Below.heap_setCell _ _ _ _ (by simp only; omega)).trans HA3.out) _
  have HF4 : Hid (((W3.setCell ⟨l, 5, none⟩ (.map (some W3.heap.size))).alloc (.map #[] 0)).heap[f]? = some (.cells #[.int .i64 rc, .int .i64 rm, .int .i64 k, .int .i64 sh, .int .i64 0, .int .i64 0, .bool false, .string ⟨#[]⟩, .bool ac, .pointer none, .slice none 0 0, .slice none 0 0, .bool false] 165 (0, 0))) := alloc_blk ((Below.heap_setCell _ _ _ _ (by simp only; omega)).trans HF3.out) _
  have HM4 : Hid (((W3.setCell ⟨l, 5, none⟩ (.map (some W3.heap.size))).alloc (.map #[] 0)).heap[W3.heap.size]? = some (.map #[] 0)) := by
    have e : (W3.setCell ⟨l, 5, none⟩ (.map (some W3.heap.size))).heap.size = W3.heap.size := by simp [World.setCell]
    have := heap_alloc_new (W3.setCell ⟨l, 5, none⟩ (.map (some W3.heap.size))) (.map #[] 0)
    rw [e] at this
    exact this
  have O4 : Hid (OnlyS [l] w ((W3.setCell ⟨l, 5, none⟩ (.map (some W3.heap.size))).alloc (.map #[] 0))) := (O3.out.setCell (.inl (by simp)) _).trans (OnlyS.of (below_alloc1 _ _))
  have hs4 : W3.heap.size < ((W3.setCell ⟨l, 5, none⟩ (.map (some W3.heap.size))).alloc (.map #[] 0)).heap.size := by simp [World.setCell]
  have hml : W3.heap.size ≠ l := by omega
  have hmw : w.heap.size ≤ W3.heap.size := O3.out.size
  have hmf : f ≠ W3.heap.size := by omega
  have hfl : f ≠ l := by omega
  have hwl : w.heap.size ≠ l := by omega
  generalize hW4 : (W3.setCell ⟨l, 5, none⟩ (.map (some W3.heap.size))).alloc (.map #[] 0) = W4 at *
  generalize hmp : W3.heap.size = mp at *
  clear hW4 hmp c5 f5 c5' f5' HL3 HA3 HF3 O3
  go_wp2_with fail
  refine (pushFront l 0 1 ps (.map (some mp)) f W4 HL4.out).mono ?_
  rintro e W5 ⟨el, rfl, he0, ho5, hl5, hel5⟩
  have HL5 : Hid (W5.heap[l]? = some (.cells #[.int .i32 0, .int .u32 0, ps, .int .i32 1, .int .u32 0, .map (some mp), .pointer (some ⟨el, 0, none⟩), .pointer (some ⟨el, 0, none⟩), .pointer none, .nilIface, .int .i64 1] 96 (0, 0))) := hl5
  have HE5 : Hid (W5.heap[el]? = some (.cells #[rootP l, rootP l, rootP l, .iface 119 (.pointer (some ⟨f, 0, none⟩))] 90 (0, 0))) := hel5
  have nl : ∀ q, q ≠ l → q ∉ [l] := fun q hq => by simp only [List.mem_cons, List.not_mem_nil, or_false]; exact hq
  have HA5 : Hid _ := ho5.blk HA4.out (nl _ hwl)
  have HF5 : Hid _ := ho5.blk HF4.out (nl _ hfl)
  have HM5 : Hid _ := ho5.blk HM4.out (nl _ hml)
  have O5 : Hid (OnlyS [l] w W5) := O4.out.trans ho5
  have hs5 : W4.heap.size ≤ W5.heap.size := ho5.size
  clear hl5 hel5 ho5 HL4 HA4 HF4 HM4 O4 hmm
  go_upto_region 14 with fail
  have y5 := blk_r HL5.out (i := 5) rfl
  have a0 := blk_r HA5.out (i := 0) rfl
  have a1 := blk_r HA5.out (i := 1) rfl
  have a2 := blk_r HA5.out (i := 2) rfl
  have a3 := blk_r HA5.out (i := 3) rfl
  have a4 := blk_r HA5.out (i := 4) rfl
  have a5 := blk_r HA5.out (i := 5) rfl
  have a6 := blk_r HA5.out (i := 6) rfl
  have a7 := blk_r HA5.out (i := 7) rfl
  have a8 := blk_r HA5.out (i := 8) rfl
  refine Mix.wp_region_mix (Mix.mkKd [(6, .wr)]) (by kernel_rfl) (by kernel_rfl) (Mix.makers_of ?_) ?_
  · intro p hp
    simp only [List.mem_cons, List.not_mem_nil, or_false] at hp
    subst hp
    trivial
  iterate 6
    refine Mix.x_det rfl (fun K hK => ?_)
    go_simp
    refine hK _ ?_
    clear hK K
  refine Mix.x_wr (fun Z => ∃ Z0, Below W5.heap.size W5 Z0 ∧ Z = ChangeMaps.setBlock Z0 mp (.map #[{ key := .agg (askA rc rm k sh ac), val := .pointer (some ⟨el, 0, none⟩), born := 0 }] 1)) rfl rfl ?_ ?_
  · intro Z0 hZ0
    have hbz : Below W5.heap.size W5 Z0 := hZ0.1
    have hu := updateA ((hbz.block mp (heap_lt HM5.out)).trans HM5.out) rc rm k sh ac (.pointer (some ⟨el, 0, none⟩))
    have HBZ : Hid _ := hbz
    clear hZ0 y5 a0 a1 a2 a3 a4 a5 a6 a7 a8 hbz
    go_simp
    exact ⟨Z0, HBZ.out, rfl⟩
  rintro Z ⟨Z0, hbz, rfl⟩
  have hel4 : el < W5.heap.size := heap_lt HE5.out
  have hef : el ≠ f := by have := heap_lt HF5.out; omega
  have hem : el ≠ mp := by omega
  have hel : el ≠ l := by omega
  have oz : ∀ q, q < W5.heap.size → q ≠ mp → (ChangeMaps.setBlock Z0 mp (.map #[{ key := .agg (askA rc rm k sh ac), val := .pointer (some ⟨el, 0, none⟩), born := 0 }] 1)).heap[q]? = W5.heap[q]? := fun q hq hne =>
    (ChangeMaps.heap_setBlock_other ((hbz.block mp (heap_lt HM5.out)).trans HM5.out) _ hne).trans (hbz.block q hq)
  have HL6 : Hid ((ChangeMaps.setBlock Z0 mp (.map #[{ key := .agg (askA rc rm k sh ac), val := .pointer (some ⟨el, 0, none⟩), born := 0 }] 1)).heap[l]? = some (.cells #[.int .i32 0, .int .u32 0, ps, .int .i32 1, .int .u32 0, .map (some mp), .pointer (some ⟨el, 0, none⟩), .pointer (some ⟨el, 0, none⟩), .pointer none, .nilIface, .int .i64 1] 96 (0, 0))) := (oz l (heap_lt HL5.out) (Ne.symm hml)).trans HL5.out
  have HE6 : Hid ((ChangeMaps.setBlock Z0 mp (.map #[{ key := .agg (askA rc rm k sh ac), val := .pointer (some ⟨el, 0, none⟩), born := 0 }] 1)).heap[el]? = some (.cells #[rootP l, rootP l, rootP l, .iface 119 (.pointer (some ⟨f, 0, none⟩))] 90 (0, 0))) := (oz el hel4 hem).trans HE5.out
  have HF6 : Hid ((ChangeMaps.setBlock Z0 mp (.map #[{ key := .agg (askA rc rm k sh ac), val := .pointer (some ⟨el, 0, none⟩), born := 0 }] 1)).heap[f]? = some (.cells #[.int .i64 rc, .int .i64 rm, .int .i64 k, .int .i64 sh, .int .i64 0, .int .i64 0, .bool false, .string ⟨#[]⟩, .bool ac, .pointer none, .slice none 0 0, .slice none 0 0, .bool false] 165 (0, 0))) := (oz f (heap_lt HF5.out) hmf).trans HF5.out
  have HM6 : Hid ((ChangeMaps.setBlock Z0 mp (.map #[{ key := .agg (askA rc rm k sh ac), val := .pointer (some ⟨el, 0, none⟩), born := 0 }] 1)).heap[mp]? = some (.map #[{ key := .agg (askA rc rm k sh ac), val := .pointer (some ⟨el, 0, none⟩), born := 0 }] 1)) := ChangeMaps.heap_setBlock_same ((hbz.block mp (heap_lt HM5.out)).trans HM5.out) _
  have O6 : Hid (OnlyS [l] w (ChangeMaps.setBlock Z0 mp (.map #[{ key := .agg (askA rc rm k sh ac), val := .pointer (some ⟨el, 0, none⟩), born := 0 }] 1))) := by
    refine ⟨hbz.os.trans O5.out.os, hbz.tape.trans O5.out.tape, hbz.output.trans O5.out.output, by have := hbz.size; have := O5.out.size; simp [ChangeMaps.setBlock]; omega, fun q hq hne => ?_⟩
    have := O5.out.size
    rw [oz q (by omega) (by omega)]
    exact O5.out.block q hq hne
  generalize hZ : ChangeMaps.setBlock Z0 mp (.map #[{ key := .agg (askA rc rm k sh ac), val := .pointer (some ⟨el, 0, none⟩), born := 0 }] 1) = X at *
  clear hZ oz hbz HL5 HE5 HF5 HM5 O5 HA5 y5 a0 a1 a2 a3 a4 a5 a6 a7 a8
  have q119 := assert119
  have e3 := blk_c HE6.out (Below.refl _ _) (i := 3) rfl
  have b12 := blk_c HF6.out (Below.refl _ _) (i := 12) rfl
  show Exit.then _ _ _ _ _
  go_wp2_with fail
  refine (moveToFront l el X (blk_c HL6.out (Below.refl _ _) (i := 6) rfl) (blk_c HE6.out (Below.refl _ _) (i := 2) rfl)).mono ?_
  rintro e X' ⟨rfl, rfl⟩
  clear e3 q119
  have g12 := blk_f HF6.out (Below.refl _ _) 12
  have HF7 : Hid ((X.setCell ⟨f, 12, none⟩ (.bool true)).heap[f]? = some (.cells #[.int .i64 rc, .int .i64 rm, .int .i64 k, .int .i64 sh, .int .i64 0, .int .i64 0, .bool false, .string ⟨#[]⟩, .bool ac, .pointer none, .slice none 0 0, .slice none 0 0, .bool true] 165 (0, 0))) := setCell_blk HF6.out _
  have o7 : Hid (∀ q, q ≠ f → (X.setCell ⟨f, 12, none⟩ (.bool true)).heap[q]? = X.heap[q]?) := fun q hq => Below.heap_setCell _ _ _ _ hq
  have O7 : Hid (OnlyS [l] w (X.setCell ⟨f, 12, none⟩ (.bool true))) := O6.out.setCell (.inr (by simp only; omega)) _
  go_upto_region 20 with fail
  generalize hX7 : X.setCell ⟨f, 12, none⟩ (.bool true) = X7 at *
  clear hX7 b12 g12 HF6 O6
  have HL7 : Hid _ := (o7.out l (Ne.symm hfl)).trans HL6.out
  have HE7 : Hid _ := (o7.out el hef).trans HE6.out
  have HM7 : Hid _ := (o7.out mp (Ne.symm hmf)).trans HM6.out
  clear o7 HL6 HE6 HM6
  have t10 := blk_c HF7.out (Below.refl _ _) (i := 10) rfl
  have hne0 : ((0 : Int) != (n : Int)) = true := bne_iff_ne.2 (by omega)
  obtain ⟨i168, hi168, hz168, hs168, hb168⟩ := info_parts Tryz.info168
  have hlf7 := heap_lt HF7.out
  have O5s : l < X7.heap.size := heap_lt HL7.out
  have hwf : w.heap.size ≤ f := by omega
  have hwe : w.heap.size ≤ el := by omega
  go_upto_region 22 with (at_make; go_must (refine wpList_make_full _ rfl _ _ 163 rfl w.heap.size 168 i168 _ 3 Tryz.underlying163 hi168 hz168 hs168 .i64 .i64 _ _ n rfl rfl rfl rfl (by rw [hb168]; omega) (by unfold maxLen; omega) O7.out.size ?_); intro X8 hown8 hgrow8; have HK8 : Hid _ := hown8; have hb8 : Below X7.heap.size X7 X8 := (Below.refl _ _).grown hgrow8 (Nat.le_refl _) (fun k h => by cases h); have HF8 : Hid _ := (hb8.block f hlf7).trans HF7.out; have u10 := blk_c HF8.out (Below.refl _ _) (i := 10) rfl; have v10 := blk_f HF8.out (Below.refl _ _) 10; have u9 := blk_c HF8.out (Below.refl _ _) (i := 9) rfl; have v9 := blk_f HF8.out (Below.refl _ _) 9; clear hown8 hgrow8)
  have W9 : Hid (∀ q, q ≠ f → q < X7.heap.size → ((X8.setCell ⟨f, 10, none⟩ (.slice (some ⟨X7.heap.size, 0, none⟩) n n)).setCell ⟨f, 9, none⟩ (.pointer none)).heap[q]? = X7.heap[q]?) := fun q hq hl => (Below.heap_setCell _ _ _ _ hq).trans ((Below.heap_setCell _ _ _ _ hq).trans (hb8.block q hl))
  have HF9 : Hid (((X8.setCell ⟨f, 10, none⟩ (.slice (some ⟨X7.heap.size, 0, none⟩) n n)).setCell ⟨f, 9, none⟩ (.pointer none)).heap[f]? = some (.cells #[.int .i64 rc, .int .i64 rm, .int .i64 k, .int .i64 sh, .int .i64 0, .int .i64 0, .bool false, .string ⟨#[]⟩, .bool ac, .pointer none, .slice (some ⟨X7.heap.size, 0, none⟩) n n, .slice none 0 0, .bool true] 165 (0, 0))) := setCell_blk (setCell_blk HF8.out _) _
  have hkf : ∀ q, Value.ownBlock (.slice (some ⟨X7.heap.size, 0, none⟩) n n) = some q → q ≠ f := fun q hq => by cases hq; simp only; omega
  have HK9 : Hid (((X8.setCell ⟨f, 10, none⟩ (.slice (some ⟨X7.heap.size, 0, none⟩) n n)).setCell ⟨f, 9, none⟩ (.pointer none)).ownsRow w.heap.size 168 3 (.slice (some ⟨X7.heap.size, 0, none⟩) n n) n (keptCells (List.replicate n (0, 0)))) := by
    have h1 := HK8.out
    rw [madeKept] at h1
    exact owns_setCell (owns_setCell h1 hkf) hkf
  have O9 : Hid (OnlyS [l] w ((X8.setCell ⟨f, 10, none⟩ (.slice (some ⟨X7.heap.size, 0, none⟩) n n)).setCell ⟨f, 9, none⟩ (.pointer none))) := ((O7.out.trans (OnlyS.of hb8)).setCell (.inr (by simp only; omega)) _).setCell (.inr (by simp only; omega)) _
  have HL9 : Hid _ := (W9.out l (Ne.symm hfl) (heap_lt HL7.out)).trans HL7.out
  have HE9 : Hid _ := (W9.out el hef (heap_lt HE7.out)).trans HE7.out
  have HM9 : Hid _ := (W9.out mp (Ne.symm hmf) (heap_lt HM7.out)).trans HM7.out
  generalize hX9 : (X8.setCell ⟨f, 10, none⟩ (.slice (some ⟨X7.heap.size, 0, none⟩) n n)).setCell ⟨f, 9, none⟩ (.pointer none) = X9 at *
  clear hX9 W9 u10 v10 u9 v9 t10 HF8 HF7 HK8 hb8 O7 HL7 HE7 HM7
  go_wp2_with fail
  refine leaves_cons (f := 61) (args := #[.pointer (some ⟨l, 3, none⟩)]) (by simp) (by simp [go_sem]) ?_
  refine (unlock_deferred Tryz.muLib ⟨l, 3, none⟩ .returning _ (blk_c HL9.out (Below.refl _ _) (i := 3) rfl) (blk_f HL9.out (Below.refl _ _) 3)).mono ?_
  rintro e u' w'' ⟨rfl, rfl, rfl⟩
  refine ⟨_, results_tmp rfl _ _ _, mp, el, f, X7.heap.size, rfl, O9.out.setCell (.inl (by simp)) _, by omega, hmw, by omega, ⟨setCell_blk HL9.out _, (Below.heap_setCell _ _ _ _ hml).trans HM9.out, (Below.heap_setCell _ _ _ _ hel).trans HE9.out, (Below.heap_setCell _ _ _ _ hfl).trans HF9.out⟩, owns_setCell HK9.out (fun q hq => by cases hq; simp only; have := O5s; omega)⟩

set_option maxRecDepth 100000 in
set_option maxHeartbeats 8000000 in
theorem takeAgain (l n : Nat) (ps : Value) (rc rm k sh : Int) (ac : Bool) (mp el f kg : Nat) (mx td : Value) (w : World) (hK : Kept w l ps rc rm k sh ac n mp el f kg mx td false) (h2 : 2 ≤ n) (hfl : f ≠ l) (hel : el ≠ l) (hml : mp ≠ l) (hef : el ≠ f) (hmf : f ≠ mp) :
    Calls Tryz.prog 40 #[.pointer (some ⟨l, 3, none⟩), .agg (askA rc rm k sh ac), .int .i64 (n : Nat)] w fun e w' => e = .returned (.pointer (some ⟨f, 0, none⟩)) ∧ OnlyS [l, f] w w' ∧ Kept w' l ps rc rm k sh ac n mp el f kg mx td true := by
  obtain ⟨hl, hm, he, hf⟩ := hK
  have HL : Hid _ := hl
  have HM : Hid _ := hm
  have HE : Hid _ := he
  have HF : Hid _ := hf
  have hll := heap_lt hl
  have hlf := heap_lt hf
  clear hl hm he hf
  have hn2 : decide ((n : Int) < 2) = false := by simp; omega
  go_enter_defers Tryz.func40, Tryz.ntmps40
  have HL0 : Hid ((w.alloc (.cells (askA rc rm k sh ac) 104)).heap[l]? = some (.cells #[.int .i32 0, .int .u32 0, ps, .int .i32 0, .int .u32 0, .map (some mp), .pointer (some ⟨el, 0, none⟩), .pointer (some ⟨el, 0, none⟩), .pointer none, .nilIface, .int .i64 1] 96 (0, 0))) := alloc_blk HL.out _
  have HA0 : Hid ((w.alloc (.cells (askA rc rm k sh ac) 104)).heap[w.heap.size]? = some (.cells (askA rc rm k sh ac) 104)) := heap_alloc_new w _
  have HM0 : Hid ((w.alloc (.cells (askA rc rm k sh ac) 104)).heap[mp]? = _) := alloc_blk HM.out _
  have HE0 : Hid ((w.alloc (.cells (askA rc rm k sh ac) 104)).heap[el]? = _) := alloc_blk HE.out _
  have HF0 : Hid ((w.alloc (.cells (askA rc rm k sh ac) 104)).heap[f]? = _) := alloc_blk HF.out _
  have O0 : Hid (OnlyS [l, f] w (w.alloc (.cells (askA rc rm k sh ac) 104))) := OnlyS.of (below_alloc1 _ _)
  go_upto_region 3 with fail
  generalize hW : w.alloc (.cells (askA rc rm k sh ac) 104) = W at *
  clear hW
  have c3 := blk_c HL0.out (Below.refl _ _) (i := 3) rfl
  have f3 := blk_f HL0.out (Below.refl _ _) 3
  go_wp2_with (go_at_call 60; refine (lock_free Tryz.muLib ⟨l, 3, none⟩ _ c3 f3).mono ?_; rintro e w' ⟨rfl, rfl⟩)
  have oo : ∀ q, q ≠ l → (W.setCell ⟨l, 3, none⟩ (.int .i32 1)).heap[q]? = W.heap[q]? := fun q hq => Below.heap_setCell _ _ _ _ hq
  have HL1 : Hid ((W.setCell ⟨l, 3, none⟩ (.int .i32 1)).heap[l]? = some (.cells #[.int .i32 0, .int .u32 0, ps, .int .i32 1, .int .u32 0, .map (some mp), .pointer (some ⟨el, 0, none⟩), .pointer (some ⟨el, 0, none⟩), .pointer none, .nilIface, .int .i64 1] 96 (0, 0))) := setCell_blk HL0.out _
  have HA1 : Hid ((W.setCell ⟨l, 3, none⟩ (.int .i32 1)).heap[w.heap.size]? = some (.cells (askA rc rm k sh ac) 104)) := (oo _ (by omega)).trans HA0.out
  have HM1 : Hid ((W.setCell ⟨l, 3, none⟩ (.int .i32 1)).heap[mp]? = some (.map #[{ key := .agg (askA rc rm k sh ac), val := .pointer (some ⟨el, 0, none⟩), born := 0 }] 1)) := (oo mp hml).trans HM0.out
  have HE1 : Hid ((W.setCell ⟨l, 3, none⟩ (.int .i32 1)).heap[el]? = some (.cells #[rootP l, rootP l, rootP l, .iface 119 (.pointer (some ⟨f, 0, none⟩))] 90 (0, 0))) := (oo el hel).trans HE0.out
  have HF1 : Hid ((W.setCell ⟨l, 3, none⟩ (.int .i32 1)).heap[f]? = some (.cells #[.int .i64 rc, .int .i64 rm, .int .i64 k, .int .i64 sh, .int .i64 0, .int .i64 0, .bool false, .string ⟨#[]⟩, .bool ac, mx, .slice (some ⟨kg, 0, none⟩) n n, td, .bool false] 165 (0, 0))) := (oo f hfl).trans HF0.out
  have O1 : Hid (OnlyS [l, f] w (W.setCell ⟨l, 3, none⟩ (.int .i32 1))) := O0.out.setCell (.inl (by simp)) _
  generalize hW1 : W.setCell ⟨l, 3, none⟩ (.int .i32 1) = W1 at *
  clear hW1 c3 f3 HL0 HA0 O0 HM0 HE0 HF0 oo
  have c5 := blk_c HL1.out (Below.refl _ _) (i := 5) rfl
  have a0 := blk_c HA1.out (Below.refl _ _) (i := 0) rfl
  have a1 := blk_c HA1.out (Below.refl _ _) (i := 1) rfl
  have a2 := blk_c HA1.out (Below.refl _ _) (i := 2) rfl
  have a3 := blk_c HA1.out (Below.refl _ _) (i := 3) rfl
  have a4 := blk_c HA1.out (Below.refl _ _) (i := 4) rfl
  have a5 := blk_c HA1.out (Below.refl _ _) (i := 5) rfl
  have a6 := blk_c HA1.out (Below.refl _ _) (i := 6) rfl
  have a7 := blk_c HA1.out (Below.refl _ _) (i := 7) rfl
  have a8 := blk_c HA1.out (Below.refl _ _) (i := 8) rfl
  have hlk : ∀ kk, (Instr.lookup 86 (.map (some mp)) (.agg (askA rc rm k sh ac)) false).run Tryz.prog (W1.drewN kk) = .ok (.pointer (some ⟨el, 0, none⟩)) (W1.drewN kk) := fun kk => lookupA_one (w := W1.drewN kk) HM1.out
  have q119 := assert119
  have e3 := blk_c HE1.out (Below.refl _ _) (i := 3) rfl
  have b12 := blk_c HF1.out (Below.refl _ _) (i := 12) rfl
  go_quiet (fail)
  go_upto_region 18 with fail
  generalize hX : W1.drewN _ = X
  have HL2 : Hid (X.heap[l]? = some (.cells #[.int .i32 0, .int .u32 0, ps, .int .i32 1, .int .u32 0, .map (some mp), .pointer (some ⟨el, 0, none⟩), .pointer (some ⟨el, 0, none⟩), .pointer none, .nilIface, .int .i64 1] 96 (0, 0))) := by show _ = _; rw [← hX]; exact HL1.out
  have HM2 : Hid (X.heap[mp]? = some (.map #[{ key := .agg (askA rc rm k sh ac), val := .pointer (some ⟨el, 0, none⟩), born := 0 }] 1)) := by show _ = _; rw [← hX]; exact HM1.out
  have HE2 : Hid (X.heap[el]? = some (.cells #[rootP l, rootP l, rootP l, .iface 119 (.pointer (some ⟨f, 0, none⟩))] 90 (0, 0))) := by show _ = _; rw [← hX]; exact HE1.out
  have HF2 : Hid (X.heap[f]? = some (.cells #[.int .i64 rc, .int .i64 rm, .int .i64 k, .int .i64 sh, .int .i64 0, .int .i64 0, .bool false, .string ⟨#[]⟩, .bool ac, mx, .slice (some ⟨kg, 0, none⟩) n n, td, .bool false] 165 (0, 0))) := by show _ = _; rw [← hX]; exact HF1.out
  have O2 : Hid (OnlyS [l, f] w X) := by show OnlyS _ _ _; rw [← hX]; exact ⟨O1.out.os, O1.out.tape, O1.out.output, O1.out.size, O1.out.block⟩
  clear hX HL1 HM1 HE1 HF1 O1 HA1 a0 a1 a2 a3 a4 a5 a6 a7 a8 c5 hlk q119 e3 b12
  go_wp2_with fail
  refine (moveToFront l el X (blk_c HL2.out (Below.refl _ _) (i := 6) rfl) (blk_c HE2.out (Below.refl _ _) (i := 2) rfl)).mono ?_
  rintro e X' ⟨rfl, rfl⟩
  have b12 := blk_c HF2.out (Below.refl _ _) (i := 12) rfl
  have g12 := blk_f HF2.out (Below.refl _ _) 12
  have HF7 : Hid ((X.setCell ⟨f, 12, none⟩ (.bool true)).heap[f]? = some (.cells #[.int .i64 rc, .int .i64 rm, .int .i64 k, .int .i64 sh, .int .i64 0, .int .i64 0, .bool false, .string ⟨#[]⟩, .bool ac, mx, .slice (some ⟨kg, 0, none⟩) n n, td, .bool true] 165 (0, 0))) := setCell_blk HF2.out _
  have o7 : Hid (∀ q, q ≠ f → (X.setCell ⟨f, 12, none⟩ (.bool true)).heap[q]? = X.heap[q]?) := fun q hq => Below.heap_setCell _ _ _ _ hq
  have O7 : Hid (OnlyS [l, f] w (X.setCell ⟨f, 12, none⟩ (.bool true))) := O2.out.setCell (.inl (by simp)) _
  go_upto_region 20 with fail
  generalize hX7 : X.setCell ⟨f, 12, none⟩ (.bool true) = X7 at *
  clear hX7 b12 g12 HF2 O2
  have HL7 : Hid _ := (o7.out l (Ne.symm hfl)).trans HL2.out
  have HE7 : Hid _ := (o7.out el hef).trans HE2.out
  have HM7 : Hid _ := (o7.out mp (Ne.symm hmf)).trans HM2.out
  clear o7 HL2 HE2 HM2
  have t10 := blk_c HF7.out (Below.refl _ _) (i := 10) rfl
  have hne0 : ((n : Int) != (n : Int)) = false := by simp
  go_wp2_with fail
  refine leaves_cons (f := 61) (args := #[.pointer (some ⟨l, 3, none⟩)]) (by simp) (by simp [go_sem]) ?_
  refine (unlock_deferred Tryz.muLib ⟨l, 3, none⟩ .returning _ (blk_c HL7.out (Below.refl _ _) (i := 3) rfl) (blk_f HL7.out (Below.refl _ _) 3)).mono ?_
  rintro e u' w'' ⟨rfl, rfl, rfl⟩
  exact ⟨_, results_tmp rfl _ _ _, rfl, O7.out.setCell (.inl (by simp)) _, setCell_blk HL7.out _, (Below.heap_setCell _ _ _ _ hml).trans HM7.out, (Below.heap_setCell _ _ _ _ hel).trans HE7.out, (Below.heap_setCell _ _ _ _ hfl).trans HF7.out⟩

set_option maxRecDepth 100000 in
set_option maxHeartbeats 8000000 in
/-- A ledger of fewer than two nodes keeps nothing. -/
theorem takeOne (l n : Nat) (rc rm k sh : Int) (ac : Bool) (w : World) (h2 : n < 2) :
    Calls Tryz.prog 40 #[.pointer (some ⟨l, 3, none⟩), .agg (askA rc rm k sh ac), .int .i64 (n : Nat)] w fun e w' => e = .returned (.pointer none) ∧ Below w.heap.size w w' := by
  have hn2 : decide ((n : Int) < 2) = true := by simp; omega
  have hb0 : Below w.heap.size w (w.alloc (.cells (askA rc rm k sh ac) 104)) := below_alloc1 _ _
  go_enter_defers Tryz.func40, Tryz.ntmps40
  go_wp2_with fail

  exact ⟨_, results_tmp rfl _ _ _, rfl, hb0⟩

end Go.Proofs.Qxb6612460aGreatFmt
