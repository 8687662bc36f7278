import Derived.Test.Qxb6612460aGreatFmtNewP
import Derived.Laws.AppendOwnNone
namespace Go.Proofs.Qxb6612460aGreatFmt
open Go.RowKit Go.Sort
attribute [local go_sem] Option.isNone_none Option.isNone_some
attribute [local go_sem] sUpon mUpon
attribute [local go_sem] Mix.isVal Mix.makes

/-- The cells of devices: island, unhealthy; no memory, no name. -/
def devC (d : ByteArray × Bool) : List Value := [.string d.1, .bool d.2, .int .i64 0, .string ⟨#[]⟩]
def devCells : List (ByteArray × Bool) → List Value
  | [] => []
  | d :: r => devC d ++ devCells r
theorem devCells_length : ∀ ds : List (ByteArray × Bool), (devCells ds).length = ds.length * 4
  | [] => rfl
  | d :: r => by simp [devCells, devC, devCells_length r]; omega
theorem devCells_at : ∀ (ds : List (ByteArray × Bool)) (i : Nat) (d : ByteArray × Bool), ds[i]? = some d → (devCells ds)[i * 4]? = some (.string d.1) ∧ (devCells ds)[i * 4 + 1]? = some (.bool d.2)
  | [], i, d, h => by simp at h
  | x :: r, 0, d, h => by
    simp only [List.getElem?_cons_zero, Option.some.injEq] at h
    subst h
    simp [devCells, devC]
  | x :: r, i + 1, d, h => by
    have := devCells_at r i d (by simpa using h)
    have e1 : (i + 1) * 4 = i * 4 + 4 := by omega
    have e2 : i * 4 + 4 + 1 = (i * 4 + 1) + 4 := by omega
    rw [e1, e2]
    simpa [devCells, devC] using this
theorem devCells_one : ∀ ds : List (ByteArray × Bool), ∀ u ∈ devCells ds, u.oneCell' = true
  | [], u, h => by simp [devCells] at h
  | d :: r, u, h => by
    simp only [devCells, devC, List.mem_append, List.mem_cons, List.not_mem_nil, or_false] at h
    rcases h with (rfl | rfl | rfl | rfl) | h
    · rfl
    · rfl
    · rfl
    · rfl
    · exact devCells_one r u h
theorem Tryz.info46 : (Tryz.prog.info? 46).map (fun i => (i.zero, i.size, i.bytes)) = some (some (.agg #[.string ⟨#[]⟩, .bool false, .int .i64 0, .string ⟨#[]⟩]), 4, 48) := by kernel_rfl
theorem Tryz.info71 : (Tryz.prog.info? 71).map (fun i => (i.zero, i.size, i.bytes)) = some (some (.pointer none), 1, 8) := by kernel_rfl
theorem Tryz.info23 : (Tryz.prog.info? 23).map (fun i => (i.zero, i.size, i.bytes)) = some (some (.slice none 0 0), 1, 24) := by kernel_rfl
theorem Tryz.info2 : (Tryz.prog.info? 2).map (fun i => (i.zero, i.size, i.bytes)) = some (some (.int .i64 0), 1, 8) := by kernel_rfl
theorem Tryz.info4 : (Tryz.prog.info? 4).map (fun i => (i.zero, i.size, i.bytes)) = some (some (.bool false), 1, 1) := by kernel_rfl

/-- Devices as they came. -/
def DevsIn (w : World) (da : Option Addr) (dc : Nat) (ds : List (ByteArray × Bool)) : Prop :=
  (ds = [] ∧ da = none ∧ dc = 0) ∨ ∃ d : Nat, da = some ⟨d, 0, none⟩ ∧ ∀ k x, (devCells ds)[k]? = some x → w.cell? ⟨d, k, none⟩ = some x
theorem DevsIn.cells {w w' : World} {da : Option Addr} {dc : Nat} {ds : List (ByteArray × Bool)} (h : DevsIn w da dc ds) (hb : Below w.heap.size w w') : DevsIn w' da dc ds := by
  rcases h with h | ⟨d, h1, h2⟩
  · exact .inl h
  · exact .inr ⟨d, h1, fun k x hx => (hb.cell (cell_lt (h2 k x hx))).trans (h2 k x hx)⟩
/-- 'append([]Device(nil), devices...)'. -/
theorem wpList_append_devs {w : World} {ops : Array Oper} {rest : List Oper} {o : Oper} {a : Act} {Q : Exit → Act → World → Prop} (hgd : o.guard = none) (s x : Operand)
    (ho : o.op = .call { callee := .builtin .append, args := #[s, x], argTypes := #[44, 44] }) (hs : a.eval s = .slice none 0 0) (da : Option Addr) (dc : Nat) (ds : List (ByteArray × Bool)) (hx : a.eval x = .slice da ds.length dc) (hD : DevsIn w da dc ds) (hn : ds.length ≤ 65536)
    (h : ∀ da' dc' w', w'.ownsRow w.heap.size 46 4 (.slice da' ds.length dc') ds.length (devCells ds) → w.grownBy w' none → wpList Tryz.prog ops Q rest (a.put o.dst (.slice da' ds.length dc')) w') : wpList Tryz.prog ops Q (o :: rest) a w := by
  obtain ⟨i0, hi, hz0, hz1, hz2⟩ := info_parts Tryz.info46
  have hnil : w.ownsRow w.heap.size 46 4 (.slice none 0 0) 0 [] := ⟨by simp, .inl ⟨rfl, rfl⟩⟩
  rcases hD with ⟨rfl, rfl, rfl⟩ | ⟨d, rfl, hc⟩
  · exact wpList_append_own_none hgd s x 44 ho w.heap.size 46 i0 4 Tryz.underlying44 hi _ 0 [] hs hnil hx (h none 0 w hnil ⟨rfl, rfl, rfl, Nat.le_refl _, fun _ _ _ => rfl⟩)
  · refine wpList_append_own w hgd s x 44 ho w.heap.size 46 i0 _ 4 48 Tryz.underlying44 hi hz0 hz1 hz2 rfl (by decide) _ 0 [] hs hnil ⟨d, 0, none⟩ ds.length dc (devCells ds) hx (devCells_length ds) (fun j u hu => ?_) (devCells_one ds) (by unfold maxLen; omega) (by omega) (Nat.le_refl _) ?_
    · have e : (⟨d, 0, none⟩ : Addr).add j = ⟨d, j, none⟩ := by unfold Addr.add; split <;> simp_all
      rw [e]
      exact hc j u hu
    · intro v' w' hown hg _
      simp only [Nat.zero_add, List.nil_append] at hown
      rcases hown.2 with ⟨rfl, h0⟩ | ⟨g, cap, cur, rfl, _⟩
      · have e : ds = [] := List.eq_nil_of_length_eq_zero h0
        subst e
        exact h none 0 w' hown hg
      · exact h _ _ w' hown hg

theorem add_block (a : Addr) (j : Nat) : (a.add j).block = a.block := by unfold Addr.add; split <;> rfl
theorem sumN_snoc0 (l : List Nat) : sumN (l ++ [0]) = sumN l := by
  induction l with
  | nil => rfl
  | cons x r ih => simp [sumN, ih]
/-- An owned row, by its cells. -/
theorem owns_slice {w : World} {B : Nat} {e : TypeId} {v : Value} {n : Nat} {xs : List Value} (h : w.ownsRow B e 1 v n xs) : ∃ a c, v = .slice a n c ∧ RowAt w a xs := by
  rcases h.2 with ⟨rfl, rfl⟩ | ⟨g, cap, cur, rfl, _⟩
  · refine ⟨none, 0, rfl, fun k x hx => ?_⟩
    have := h.1
    rw [Nat.zero_mul] at this
    rw [List.eq_nil_of_length_eq_zero this] at hx
    simp at hx
  · refine ⟨_, _, rfl, fun k x hx => ⟨g, 0, rfl, ?_⟩⟩
    have hl := (List.getElem?_eq_some_iff.1 hx).1
    rw [Nat.zero_add, h.cellAt k (by have := h.1; omega)]
    exact hx
theorem cell_other {w w' : World} {g : Nat} (hg : w.grownBy w' (some g)) {p : Addr} {v : Value} (hv : w.cell? p = some v) (hne : p.block ≠ g) : w'.cell? p = some v := by
  have : w'.cell? p = w.cell? p := by
    unfold World.cell?
    rw [hg.block _ (cell_lt hv) (fun e => hne (Option.some.inj e))]
  exact this.trans hv
theorem ownsRow_grown {w w' : World} {g B : Nat} {e : TypeId} {size : Nat} {v : Value} {n : Nat} {xs : List Value} (h : w.ownsRow B e size v n xs) (hg : w.grownBy w' (some g)) (hne : ∀ q, v.ownBlock = some q → q ≠ g) : w'.ownsRow B e size v n xs :=
  ownsRow_same h (fun q hq => hg.block q (ownsRow_lt h q hq) (fun e => hne q hq (Option.some.inj e)))
theorem grown_blk {w w' : World} {row : Option Nat} (hg : w.grownBy w' row) {k : Nat} {o : Obj} (h : w.heap[k]? = some o) (hne : row ≠ some k) : w'.heap[k]? = some o := (hg.block k (heap_lt h) (Ne.symm hne)).trans h
theorem alloc_blk {w : World} {k : Nat} {o : Obj} (h : w.heap[k]? = some o) (x : Obj) : (w.alloc x).heap[k]? = some o := (heap_alloc_old _ _ (heap_lt h)).trans h
def IsRow (n : Nat) (u : Value) : Prop := ∃ g : Nat, u = .slice (some ⟨g, 0, none⟩) n n
/-- A row of n zeros that was made. -/
def MadeAt (B : Nat) (e : TypeId) (z : Value) (n : Nat) (u : Value) (W : World) : Prop := W.ownsRow B e 1 u n (List.replicate n z)
theorem madeAt_lasts (B : Nat) (e : TypeId) (z : Value) (n : Nat) (u : Value) : Lasts (MadeAt B e z n u) := fun _ _ hb h => owns_below h hb
theorem make_makes {o : Oper} {a : Act} {W : World} {B : Nat} (l c : Operand) (t : TypeId) (hop : o.op = Op.makeSlice t l c) (e : TypeId) (i : TypeInfo) (z : Value) (h1 : Tryz.prog.underlying t = some (.slice e)) (h2 : Tryz.prog.info? e = some i) (h3 : i.zero = some z) (h4 : i.size = 1) {by' : Nat} (h5 : i.bytes = by') (h6 : by' ≤ 64)
    (kl kc : IntKind) (n : Nat) (hl : a.eval l = .int kl (n : Int)) (hc : a.eval c = .int kc (n : Int)) (hn : n ≤ 65536) (hB : B ≤ W.heap.size) (hz : z.cells = #[z]) :
    Mix.makes Tryz.prog W (IsRow n) (MadeAt B e z n) ((execOp a.eval o).run Tryz.prog W) := by
  have hb : i.bytes * n ≤ 281474976710656 := by
    have : i.bytes * n ≤ 64 * 65536 := Nat.mul_le_mul (h5 ▸ h6) hn
    omega
  obtain ⟨w', hrun, r1, r2⟩ := run_make_full (P := Tryz.prog) W B t e i z 1 h1 h2 h3 h4 kl kc n hb (by unfold maxLen; omega) hB
  have e1 : (madeCells z.cells (n * 1)).toList = List.replicate n z := by
    rw [Nat.mul_one, hz]
    exact toList_madeCells_one _ _
  rw [e1] at r1
  simp [execOp, hop, hl, hc, hrun, Result.andThen, Mix.makes]
  exact ⟨(Below.refl _ _).grown r2 (Nat.le_refl _) (fun k h => by cases h), ⟨_, rfl⟩, r1⟩
/-- The books, whatever turns elsewhere. -/
def BooksIn (B E : Nat) (w : World) (b : Nat) (cpu mem : Int) (ps : List (Nat × Bool)) (fr : List Nat) : Prop :=
  ∀ w' : World, (∀ k, B ≤ k → k < E → w'.heap[k]? = w.heap[k]?) → BooksAt w' b cpu mem ps fr ∧ w'.cell? ⟨b, 15, none⟩ = some (.int .i64 0)
/-- Behind the one node's round. -/
def Done1 (w WS wr : World) (m s : Nat) (cpu mem : Int) (ds : List (ByteArray × Bool)) : Prop :=
  Below w.heap.size w wr ∧ WS.heap.size ≤ wr.heap.size ∧ wr.heap[m]? = some (.cells #[.slice none 0 0, .slice none 0 0, .int .i64 0] 55) ∧ wr.heap[s]? = some (.cells #[.slice (some ⟨w.heap.size, 0, none⟩) 1 1, .pointer (some ⟨m, 0, none⟩), .slice none 0 0, .slice none 0 0] 58 (0, 0)) ∧
    ∃ (b : Nat) (nms : List ByteArray) (ps : List (Nat × Bool)) (fr : List Nat), wr.ownsRow w.heap.size 71 1 (.slice (some ⟨w.heap.size, 0, none⟩) 1 1) 1 [.pointer (some ⟨b, 0, none⟩)] ∧ WS.heap.size ≤ b ∧ b < wr.heap.size ∧ BooksIn WS.heap.size wr.heap.size wr b cpu mem ps fr ∧ St ds nms ps fr
/-- The new ledger holds one node. -/
def NewPost (w : World) (cpu mem : Int) (ds : List (ByteArray × Bool)) (e : Ending) (w' : World) : Prop :=
  Below w.heap.size w w' ∧ ∃ (l s m b : Nat) (cs : Array Value) (nms : List ByteArray) (ps : List (Nat × Bool)) (fr : List Nat), e = .returned (.pointer (some ⟨l, 0, none⟩)) ∧
    w'.cell? ⟨l, 2, none⟩ = some (.pointer (some ⟨s, 0, none⟩)) ∧ w'.heap[s]? = some (.cells cs 58 (0, 0)) ∧ cs.size = 4 ∧ NodeAt w' s m 0 b ∧ BooksAt w' b cpu mem ps fr ∧
    (∃ vg vo vc, w'.cell? ⟨s, 3, none⟩ = some (.slice (some ⟨vg, vo, none⟩) 1 vc) ∧ w'.cell? ⟨vg, vo, none⟩ = some (.int .i64 0)) ∧ St ds nms ps fr


theorem dev_cell {w : World} {B : Nat} {dv : Value} {ds : List (ByteArray × Bool)} (h : w.ownsRow B 46 4 dv ds.length (devCells ds)) {i : Nat} {d : ByteArray × Bool} (hi : ds[i]? = some d) : ∃ dd dc, dv = .slice (some ⟨dd, 0, none⟩) ds.length dc ∧ w.cell? ⟨dd, i * 4 + 1, none⟩ = some (.bool d.2) := by
  have hl := (List.getElem?_eq_some_iff.1 hi).1
  obtain ⟨dd, dc, rfl⟩ := owns_form' h (by omega)
  refine ⟨dd, dc, rfl, ?_⟩
  rw [h.cellAt (i * 4 + 1) (by omega)]
  exact (devCells_at ds i d hi).2
theorem aux_of {w : World} {B B' b g8 : Nat} {dv : Value} {ds : List (ByteArray × Bool)} {nms : List ByteArray} {ps : List (Nat × Bool)} {fr : List Nat} (h8 : w.ownsRow B 2 1 (.slice (some ⟨g8, 0, none⟩) ds.length ds.length) ds.length (List.replicate ds.length (.int .i64 0))) (hD : w.ownsRow B' 46 4 dv ds.length (devCells ds)) (hS : St ds nms ps fr)
    (hdb : ∀ q, dv.ownBlock = some q → q ≠ b) (h8b : g8 ≠ b) : Aux w b dv (.slice (some ⟨g8, 0, none⟩) ds.length ds.length) (ps.map (·.2)) where
  dev := by
    by_cases h0 : ds.length = 0
    · rcases hD.2 with ⟨rfl, _⟩ | ⟨g, cap, cur, rfl, _⟩
      · exact ⟨none, 0, 0, rfl, .inl ⟨rfl, fun i h hi => by
          have := hS.plen
          rw [List.eq_nil_of_length_eq_zero (show ps.length = 0 by omega)] at hi
          simp at hi⟩⟩
      · exact ⟨_, _, _, rfl, .inl ⟨h0, fun i h hi => by
          have := hS.plen
          rw [List.eq_nil_of_length_eq_zero (show ps.length = 0 by omega)] at hi
          simp at hi⟩⟩
    · obtain ⟨dd, dc, rfl⟩ := owns_form' hD (by omega)
      refine ⟨_, _, _, rfl, .inr ⟨dd, 0, rfl, hdb dd rfl, by rw [List.length_map, hS.plen]; exact Nat.le_refl _, fun i h hi => ?_⟩⟩
      rw [List.getElem?_map] at hi
      obtain ⟨p, hp, rfl⟩ := Option.map_eq_some_iff.1 hi
      have hil : i < ds.length := by rw [← hS.plen]; exact (List.getElem?_eq_some_iff.1 hp).1
      obtain ⟨p', h1, h2, _⟩ := hS.at' i ds[i] (List.getElem?_eq_getElem hil)
      rw [hp] at h1
      cases h1
      obtain ⟨dd', dc', e, hc⟩ := dev_cell hD (List.getElem?_eq_getElem hil)
      simp only [Value.slice.injEq, Option.some.injEq, Addr.mk.injEq, and_true, true_and] at e
      rw [Nat.zero_add, e.1, hc, h2]
      simp
  held := ⟨g8, ds.length, by rw [List.length_map, hS.plen], h8b, fun i hi => by
    rw [List.length_map, hS.plen] at hi
    rw [h8.cellAt i (by omega)]
    simp [hi]⟩
theorem xs_eq {ps : List (Nat × Bool)} {xs : List Nat} (hl : xs.length = ps.length) (h : ∀ (i : Nat) (p : Nat × Bool), ps[i]? = some p → xs[i]? = some p.1) : xs.map natV = ps.map (fun p => natV p.1) := by
  apply List.ext_getElem?
  intro i
  rw [List.getElem?_map, List.getElem?_map]
  cases hp : ps[i]? with
  | none =>
    rw [List.getElem?_eq_none (by rw [hl]; exact List.getElem?_eq_none_iff.1 hp)]
    rfl
  | some p => rw [h i p hp]; rfl
theorem booksIn_of {B : Nat} {X : World} {b g8 gi : Nat} {cpu mem x : Int} {dv v9 v10 v13 fits : Value} {ds : List (ByteArray × Bool)} {nms : List ByteArray} {ps : List (Nat × Bool)} {fr xs : List Nat}
    (hb : X.heap[b]? = some (.cells #[.string ⟨#[]⟩, .int .i64 cpu, .int .i64 mem, .int .i64 (ds.length : Nat), .string ⟨#[]⟩, dv, .int .i64 0, .int .i64 0, .slice (some ⟨g8, 0, none⟩) ds.length ds.length, v9, v10, .int .i64 (sumN fr : Nat), .slice (some ⟨gi, 0, none⟩) ds.length ds.length, v13, .int .u64 0, .int .i64 0, .int .i64 x, .int .i64 (sumN fr : Nat), .int .i64 cpu, .int .i64 mem, fits, .int .i64 0, .bool true, .int .i64 0] 66 (0, 0))) (hBb : B ≤ b)
    (h8 : X.ownsRow B 2 1 (.slice (some ⟨g8, 0, none⟩) ds.length ds.length) ds.length (List.replicate ds.length (.int .i64 0))) (hI : X.ownsRow B 3 1 (.slice (some ⟨gi, 0, none⟩) ds.length ds.length) ds.length (xs.map natV)) (hIx : ∀ (i : Nat) (p : Nat × Bool), ps[i]? = some p → xs[i]? = some p.1)
    (hF : X.ownsRow B 3 1 v13 fr.length (fr.map natV)) (hD : X.ownsRow B 46 4 dv ds.length (devCells ds)) (hS : St ds nms ps fr) : BooksIn B X.heap.size X b cpu mem ps fr := by
  intro w' hw'
  have hb' := (hw' b hBb (heap_lt hb)).trans hb
  have lift : ∀ {e : TypeId} {size : Nat} {v : Value} {n : Nat} {ys : List Value}, X.ownsRow B e size v n ys → w'.ownsRow B e size v n ys := fun h =>
    ownsRow_same h (fun q hq => hw' q (owns_block h q hq) (ownsRow_lt h q hq))
  have c := fun (i : Nat) (v : Value) (hv : (#[.string ⟨#[]⟩, .int .i64 cpu, .int .i64 mem, .int .i64 (ds.length : Nat), .string ⟨#[]⟩, dv, .int .i64 0, .int .i64 0, .slice (some ⟨g8, 0, none⟩) ds.length ds.length, v9, v10, .int .i64 (sumN fr : Nat), .slice (some ⟨gi, 0, none⟩) ds.length ds.length, v13, .int .u64 0, .int .i64 0, .int .i64 x, .int .i64 (sumN fr : Nat), .int .i64 cpu, .int .i64 mem, fits, .int .i64 0, .bool true, .int .i64 0] : Array Value)[i]? = some v) => blk_c hb' (Below.refl _ _) (i := i) hv
  have hxl : xs.length = ps.length := by have := hI.1; rw [List.length_map] at this; rw [hS.plen]; omega
  refine ⟨⟨c 1 _ rfl, c 2 _ rfl, c 4 _ rfl, c 6 _ rfl, c 7 _ rfl, ?_, c 11 _ rfl, ?_, ?_, ?_, c 14 _ rfl, ⟨x, c 16 _ rfl⟩, c 17 _ rfl, c 18 _ rfl, c 19 _ rfl, c 21 _ rfl, c 23 _ rfl⟩, c 15 _ rfl⟩
  · obtain ⟨a, cap, e, hr⟩ := owns_slice (lift h8)
    refine ⟨a, cap, ?_, ?_⟩
    · rw [hS.plen, ← e]; exact c 8 _ rfl
    · rw [hS.plen]; exact hr
  · obtain ⟨a, cap, e, hr⟩ := owns_slice (lift hI)
    refine ⟨a, cap, ?_, ?_⟩
    · rw [hS.plen, ← e]; exact c 12 _ rfl
    · rw [← xs_eq hxl hIx]; exact hr
  · obtain ⟨a, cap, e, hr⟩ := owns_slice (lift hF)
    exact ⟨a, cap, by rw [← e]; exact c 13 _ rfl, hr⟩
  · intro i p hp
    have hil : i < ds.length := by rw [← hS.plen]; exact (List.getElem?_eq_some_iff.1 hp).1
    obtain ⟨p', h1, h2, _⟩ := hS.at' i ds[i] (List.getElem?_eq_getElem hil)
    rw [hp] at h1
    cases h1
    obtain ⟨dd, dc, e, hc⟩ := dev_cell (lift hD) (List.getElem?_eq_getElem hil)
    have c5 := c 5 _ rfl
    rw [e] at c5
    exact ⟨_, _, _, c5, .inr ⟨hil, dd, 0, rfl, by rw [Nat.zero_add, hc, h2]; simp⟩⟩

/-- A new block of one number. -/
def OneAt (B : Nat) (x : Value) (u : Value) (W : World) : Prop := ∃ g : Nat, u = .slice (some ⟨g, 0, none⟩) 1 1 ∧ B ≤ g ∧ W.heap[g]? = some (.cells #[x] 3 (0, 0))
theorem oneAt_lasts (B : Nat) (x : Value) (u : Value) : Lasts (OneAt B x u) := by
  rintro W W' hb ⟨g, h1, h2, h3⟩
  exact ⟨g, h1, h2, (hb.block g (heap_lt h3)).trans h3⟩
theorem oneAt_alloc' (w : World) (v : Value) (p : Regrown) : Below ((redrawn w p.d).heap.size + p.os.size) (Sort.grow (redrawn w p.d) p.os) ((Sort.grow (redrawn w p.d) p.os).alloc (.cells #[v] 3)) ∧
    OneAt w.heap.size v (.slice (some ⟨(redrawn w p.d).heap.size + p.os.size, 0, none⟩) 1 1) ((Sort.grow (redrawn w p.d) p.os).alloc (.cells #[v] 3)) := by
  have e : (Sort.grow (redrawn w p.d) p.os).heap.size = (redrawn w p.d).heap.size + p.os.size := by simp [Sort.grow]
  rw [← e]
  exact ⟨below_alloc1 _ _, _, rfl, (below_regrown w p.d p.os).size, heap_alloc_new _ _⟩
theorem append_makes {o : Oper} {a : Act} {W : World} (s x : Operand) (ho : o.op = .call { callee := .builtin .append, args := #[s, x], argTypes := #[23, 23] }) (hs : a.eval s = .slice none 0 0) (g : Nat) (v : Int) (hx : a.eval x = .slice (some ⟨g, 0, none⟩) 1 1) (hg : W.heap[g]? = some (.cells #[.int .i64 v] 3 (0, 0))) :
    Mix.makes Tryz.prog W (fun u => ∃ g c : Nat, u = .slice (some ⟨g, 0, none⟩) 1 c) (fun _ _ => True) ((execOp a.eval o).run Tryz.prog W) := by
  obtain ⟨i0, hi, hz0, hz1, hz2⟩ := info_parts Tryz.info3
  obtain ⟨v', w', hr, h2, h3, h4⟩ := run_append_own (P := Tryz.prog) W W.heap.size 23 o.type 3 i0 (.int .i64 0) 1 8 Tryz.underlying23 hi hz0 hz1 hz2 rfl (by decide) (.slice none 0 0) 0 [] ⟨by simp, .inl ⟨rfl, rfl⟩⟩ ⟨g, 0, none⟩ 1 1 [.int .i64 v] rfl (fun j u hu => by
    have hj : j = 0 := by
      rcases j with _ | j
      · rfl
      · simp at hu
    subst hj
    simp at hu
    subst hu
    have e : (⟨g, 0, none⟩ : Addr).add 0 = ⟨g, 0, none⟩ := by unfold Addr.add; split <;> simp_all
    rw [e]
    exact (cell_of_row W g 0 _ 3 (0, 0) hg).trans rfl) (by intro u hu; simp at hu; subst hu; rfl) (by unfold maxLen; omega) (by omega) (Nat.le_refl _)
  obtain ⟨g', c', rfl⟩ := owns_form' h2 (by omega)
  unfold execOp
  simp only [ho, Go.resolve, invoke, builtin, Sem.run_bind, Sem.run_pure, Result.andThen_ok, List.map_toArray, List.map_cons, List.map_nil, hs, hx, hr, Mix.makes]
  exact ⟨(Below.refl _ _).grown h3 (Nat.le_refl _) (fun k h => by cases h), ⟨_, _, rfl⟩, trivial⟩
/-- Behind the second loop's one round. -/
def Fin1 (w WS wr Z : World) (m s b : Nat) : Prop :=
  Below w.heap.size w Z ∧ wr.heap.size ≤ Z.heap.size ∧ (∀ k, WS.heap.size ≤ k → k < wr.heap.size → Z.heap[k]? = wr.heap[k]?) ∧ Z.heap[m]? = wr.heap[m]? ∧ Z.ownsRow w.heap.size 71 1 (.slice (some ⟨w.heap.size, 0, none⟩) 1 1) 1 [.pointer (some ⟨b, 0, none⟩)] ∧
    ∃ (v2 : Value) (gv cv : Nat), Z.heap[s]? = some (.cells #[.slice (some ⟨w.heap.size, 0, none⟩) 1 1, .pointer (some ⟨m, 0, none⟩), v2, .slice (some ⟨gv, 0, none⟩) 1 cv] 58 (0, 0)) ∧ Z.cell? ⟨gv, 0, none⟩ = some (.int .i64 0)

end Go.Proofs.Qxb6612460aGreatFmt
