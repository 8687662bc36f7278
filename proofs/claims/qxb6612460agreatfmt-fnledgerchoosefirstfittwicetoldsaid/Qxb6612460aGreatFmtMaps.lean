import Derived.Test.Qxb6612460aGreatFmtWeigh
import Derived.Maps.OwnSet
import Derived.WideKeyEntry
namespace Go.Proofs.Qxb6612460aGreatFmt
open Go.RowKit
attribute [local go_sem] Option.isNone_none Option.isNone_some
attribute [local go_sem] sUpon mUpon
attribute [local go_sem] Mix.isVal Mix.makes

/-- The first entry of a key. -/
def look {α : Type} (es : List (ByteArray × α)) (key : ByteArray) : Option α :=
  match es with
  | [] => none
  | p :: r => if key = p.1 then some p.2 else look r key

theorem look_append {α : Type} (key : ByteArray) : ∀ (es fs : List (ByteArray × α)), look (es ++ fs) key = (look es key).or (look fs key)
  | [], fs => by simp [look]
  | p :: r, fs => by
    simp only [List.cons_append, look]
    split
    · rfl
    · exact look_append key r fs

theorem look_map {α β : Type} (f : α → β) (key : ByteArray) : ∀ (es : List (ByteArray × α)), look (es.map fun p => (p.1, f p.2)) key = (look es key).map f
  | [] => rfl
  | p :: r => by
    simp only [List.map_cons, look]
    split
    · rfl
    · exact look_map f key r

/-- Block b of w is a map whose entries are es, in the order in which they were made. -/
def MapIs (w : World) (b : Nat) (es : List (ByteArray × Value)) : Prop :=
  ∃ entries clock, w.heap[b]? = some (.map entries clock) ∧ entries.toList.map (fun e => (e.key, e.val)) = es.map (fun p => (Value.string p.1, p.2))

theorem beq_bytes (a b : ByteArray) : (a == b) = decide (a = b) := by
  have h : (a == b) = (a.data == b.data) := rfl
  rw [h]
  by_cases h1 : a = b
  · subst h1; simp
  · have h2 : a.data ≠ b.data := fun e => h1 (by cases a; cases b; simp at e; rw [e])
    simp [h1, h2]

theorem findNow_str (key : ByteArray) : ∀ (l : List MapEntry) (es : List (ByteArray × Value)) (i : Nat), l.map (fun e => (e.key, e.val)) = es.map (fun p => (Value.string p.1, p.2)) →
    ∃ r, Instr.findNow .string (.string key) l i = some r ∧ r.map (·.2) = look es key ∧ (∀ j v, r = some (j, v) → i ≤ j ∧ j < i + l.length)
  | [], [], i, _ => ⟨none, rfl, rfl, by intro j v h; cases h⟩
  | [], _ :: _, _, h => by simp at h
  | _ :: _, [], _, h => by simp at h
  | e :: l, p :: es, i, h => by
    simp only [List.map_cons, List.cons.injEq, Prod.mk.injEq] at h
    obtain ⟨⟨hk, hv⟩, ht⟩ := h
    simp only [Instr.findNow, hk, Instr.sameNow, look, beq_bytes]
    by_cases hkey : key = p.1
    · rw [if_pos hkey]
      simp only [hkey, decide_true]
      exact ⟨some (i, e.val), rfl, by simp [hv], by intro j v hj; cases hj; simp⟩
    · rw [if_neg hkey]
      simp only [hkey, decide_false]
      obtain ⟨r, h1, h2, h3⟩ := findNow_str key l es (i + 1) ht
      exact ⟨r, h1, h2, by intro j v hj; have := h3 j v hj; simp; omega⟩

theorem run_checkKey_str {P : Program} {k : TypeId} (hk : P.underlying k = some .string) (emp : Bool) (n : Nat) (key : ByteArray) (w : World) : (Instr.checkKey emp (n + 1) k (.string key)).run P w = .ok () w := by
  simp [Instr.checkKey, run_underlying hk]

theorem run_lookup_str {P : Program} {w : World} {t k e : TypeId} (ht : P.underlying t = some (.map k e)) (hk : P.underlying k = some .string) {b : Nat} {es : List (ByteArray × Value)} (hb : MapIs w b es) (key : ByteArray) {z : Value} (hz : (zeroValue e).run P w = .ok z w) :
    (Instr.lookup t (.map (some b)) (.string key) false).run P w = .ok ((look es key).getD z) w := by
  obtain ⟨entries, clock, hh, hes⟩ := hb
  obtain ⟨r, h1, h2, _⟩ := findNow_str key entries.toList es 0 hes
  have hf : (Instr.findKey k (.string key) entries.toList).run P w = .ok r w := by
    simp [Instr.findKey, run_underlying hk, h1]
  cases r with
  | none =>
    simp only [Option.map_none] at h2
    simp [Instr.lookup, run_underlying ht, MapKept.run_getObj_map hh, run_checkKey_str hk, hf, hz, Result.andThen, ← h2]
  | some p =>
    simp only [Option.map_some] at h2
    simp [Instr.lookup, run_underlying ht, MapKept.run_getObj_map hh, run_checkKey_str hk, hf, Result.andThen, ← h2]

theorem run_update_str {P : Program} {w : World} {t k e : TypeId} (ht : P.underlying t = some (.map k e)) (hk : P.underlying k = some .string) {b : Nat} {es : List (ByteArray × Value)} (hb : MapIs w b es) (key : ByteArray) (v : Value) (hn : look es key = none) :
    ∃ w', (Instr.mapUpdate t (.map (some b)) (.string key) v).run P w = .ok () w' ∧ MapIs w' b (es ++ [(key, v)]) ∧ w.grownBy w' (some b) := by
  obtain ⟨entries, clock, hh, hes⟩ := hb
  obtain ⟨r, h1, h2, _⟩ := findNow_str key entries.toList es 0 hes
  have hr : r = none := by
    rw [hn] at h2
    cases r with
    | none => rfl
    | some p => cases h2
  subst hr
  have hf : (Instr.findKey k (.string key) entries.toList).run P w = .ok none w := by
    simp [Instr.findKey, run_underlying hk, h1]
  refine ⟨_, by simp [Instr.mapUpdate, run_underlying ht, MapKept.run_getObj_map hh, run_checkKey_str hk, hf, MapKept.run_setObj_map _ hh, Result.andThen]; rfl, ⟨_, _, ChangeMaps.heap_setBlock_same hh _, ?_⟩, ?_⟩
  · simp [hes]
  · exact ⟨rfl, rfl, rfl, by simp [ChangeMaps.setBlock], fun i _ hi => ChangeMaps.heap_setBlock_other hh _ (fun e => hi (by rw [e]))⟩

theorem MapIs.kept {w w' : World} {b : Nat} {es : List (ByteArray × Value)} (h : MapIs w b es) (hw : w'.heap[b]? = w.heap[b]?) : MapIs w' b es := by
  obtain ⟨entries, clock, hh, hes⟩ := h
  exact ⟨entries, clock, hw.trans hh, hes⟩

theorem MapIs.lt {w : World} {b : Nat} {es : List (ByteArray × Value)} (h : MapIs w b es) : b < w.heap.size := by
  obtain ⟨entries, clock, hh, _⟩ := h
  rcases Nat.lt_or_ge b w.heap.size with h1 | h1
  · exact h1
  · rw [Array.getElem?_eq_none h1] at hh; cases hh

/-- 'm[k]' at the operation. -/
theorem wpList_lookup_str {P : Program} (w : World) {ops : Array Oper} {rest : List Oper} {o : Oper} {a : Act} {Q : Exit → Act → World → Prop}
    (hg : o.guard = none) (m x : Operand) (t : TypeId) (hop : o.op = Op.lookup t m x false) (k e : TypeId) (ht : P.underlying t = some (.map k e)) (hk : P.underlying k = some .string)
    (b : Nat) (es : List (ByteArray × Value)) (hm : a.eval m = .map (some b)) (hb : MapIs w b es) (key : ByteArray) (hx : a.eval x = .string key) (z : Value) (hz : ∀ w, (zeroValue e).run P w = .ok z w)
    (v : Value) (hv : (look es key).getD z = v) (hK : wpList P ops Q rest (a.put o.dst v) w) : wpList P ops Q (o :: rest) a w := by
  refine wpList_plain hg fun K hK' => ?_
  have hrun := run_lookup_str ht hk hb key (hz w)
  rw [hv] at hrun
  unfold Oper.wp
  simp [execOp, hop, hm, hx, hrun, Result.andThen]
  exact hK' _ _ hK

/-- 'm[k] = v' at the operation, k not yet there. -/
theorem wpList_update_str {P : Program} (w : World) {ops : Array Oper} {rest : List Oper} {o : Oper} {a : Act} {Q : Exit → Act → World → Prop}
    (hg : o.guard = none) (m x y : Operand) (t : TypeId) (hop : o.op = Op.mapUpdate t m x y) (k e : TypeId) (ht : P.underlying t = some (.map k e)) (hk : P.underlying k = some .string)
    (b : Nat) (es : List (ByteArray × Value)) (hm : a.eval m = .map (some b)) (hb : MapIs w b es) (key : ByteArray) (hx : a.eval x = .string key) (v : Value) (hy : a.eval y = v)
    (hn : look es key = none) (hK : ∀ w', MapIs w' b (es ++ [(key, v)]) → w.grownBy w' (some b) → wpList P ops Q rest (a.put o.dst undef) w') : wpList P ops Q (o :: rest) a w := by
  refine wpList_plain hg fun K hK' => ?_
  obtain ⟨w', hrun, r1, r2⟩ := run_update_str (P := P) ht hk hb key v hn
  unfold Oper.wp
  simp [execOp, hop, hm, hx, hy, hrun, Result.andThen]
  exact hK' _ _ (hK w' r1 r2)


/-! ### comma ok -/
theorem run_lookup_str_ok {P : Program} {w : World} {t k e : TypeId} (ht : P.underlying t = some (.map k e)) (hk : P.underlying k = some .string) {b : Nat} {es : List (ByteArray × Value)} (hb : MapIs w b es) (key : ByteArray) {z : Value} (hz : (zeroValue e).run P w = .ok z w) :
    (Instr.lookup t (.map (some b)) (.string key) true).run P w = .ok (.tuple #[(look es key).getD z, .bool (look es key).isSome]) w := by
  obtain ⟨entries, clock, hh, hes⟩ := hb
  obtain ⟨r, h1, h2, _⟩ := findNow_str key entries.toList es 0 hes
  have hf : (Instr.findKey k (.string key) entries.toList).run P w = .ok r w := by
    simp [Instr.findKey, run_underlying hk, h1]
  cases r with
  | none =>
    simp only [Option.map_none] at h2
    simp [Instr.lookup, run_underlying ht, MapKept.run_getObj_map hh, run_checkKey_str hk, hf, hz, Result.andThen, ← h2]
  | some p =>
    simp only [Option.map_some] at h2
    simp [Instr.lookup, run_underlying ht, MapKept.run_getObj_map hh, run_checkKey_str hk, hf, Result.andThen, ← h2]
theorem wpList_lookup_str_ok {P : Program} (w : World) {ops : Array Oper} {rest : List Oper} {o : Oper} {a : Act} {Q : Exit → Act → World → Prop}
    (hg : o.guard = none) (m x : Operand) (t : TypeId) (hop : o.op = Op.lookup t m x true) (k e : TypeId) (ht : P.underlying t = some (.map k e)) (hk : P.underlying k = some .string)
    (b : Nat) (es : List (ByteArray × Value)) (hm : a.eval m = .map (some b)) (hb : MapIs w b es) (key : ByteArray) (hx : a.eval x = .string key) (z : Value) (hz : ∀ w, (zeroValue e).run P w = .ok z w)
    (v : Value) (ok : Bool) (hv : (look es key).getD z = v) (hok : (look es key).isSome = ok) (hK : wpList P ops Q rest (a.put o.dst (.tuple #[v, .bool ok])) w) : wpList P ops Q (o :: rest) a w := by
  refine wpList_plain hg fun K hK' => ?_
  have hrun := run_lookup_str_ok ht hk hb key (hz w)
  rw [hv, hok] at hrun
  unfold Oper.wp
  simp [execOp, hop, hm, hx, hrun, Result.andThen]
  exact hK' _ _ hK

/-! ### The map of the first nodes of each spec, empty before its first entry -/
theorem Tryz.zero51 (w : World) : (zeroValue 51).run Tryz.prog w = .ok (.slice none 0 0) w := by kernel_rfl
theorem Tryz.zero3 (w : World) : (zeroValue 3).run Tryz.prog w = .ok (.int .i64 0) w := by kernel_rfl
theorem run_checkKey3 (emp : Bool) (x y z : Int) (w : World) : (Instr.checkKey emp 10000 70 (.agg #[.int .i64 x, .int .i64 y, .int .i64 z])).run Tryz.prog w = .ok () w := by kernel_rfl
theorem run_lookup3 {w : World} {b : Nat} (hb : w.heap[b]? = some (.map #[] 0)) (x y z : Int) : (Instr.lookup 59 (.map (some b)) (.agg #[.int .i64 x, .int .i64 y, .int .i64 z]) false).run Tryz.prog w = .ok (.slice none 0 0) w := by
  have hf : (Instr.findKey 70 (.agg #[.int .i64 x, .int .i64 y, .int .i64 z]) []).run Tryz.prog w = .ok none w := by
    simp [Instr.findKey, run_underlying Tryz.underlying70, Instr.findNow]
  simp [Instr.lookup, run_underlying Tryz.underlying59, MapKept.run_getObj_map hb, run_checkKey3, hf, Result.andThen]
theorem wpList_lookup3 (w : World) {ops : Array Oper} {rest : List Oper} {o : Oper} {a : Act} {Q : Exit → Act → World → Prop}
    (hg : o.guard = none) (m x : Operand) (hop : o.op = Op.lookup 59 m x false) (b : Nat) (hb : w.heap[b]? = some (.map #[] 0)) (x1 x2 x3 : Int) (hm : a.eval m = .map (some b)) (hx : a.eval x = .agg #[.int .i64 x1, .int .i64 x2, .int .i64 x3])
    (hK : wpList Tryz.prog ops Q rest (a.put o.dst (.slice none 0 0)) w) : wpList Tryz.prog ops Q (o :: rest) a w := by
  refine wpList_plain hg fun K hK' => ?_
  have hrun := run_lookup3 hb x1 x2 x3
  unfold Oper.wp
  simp [execOp, hop, hm, hx, hrun, Result.andThen]
  exact hK' _ _ hK
theorem wpList_mapEntry3 (w : World) {ops : Array Oper} {rest : List Oper} {o : Oper} {a : Act} {Q : Exit → Act → World → Prop}
    (hg : o.guard = none) (m x : Operand) (hop : o.op = Op.mapEntry 59 m x) (b : Nat) (hb : w.heap[b]? = some (.map #[] 0)) (x1 x2 x3 : Int) (hm : a.eval m = .map (some b)) (hx : a.eval x = .agg #[.int .i64 x1, .int .i64 x2, .int .i64 x3])
    (hK : ∀ w', w.grownBy w' (some b) → w'.heap[b]? = some (.map #[{ key := .agg #[.int .i64 x1, .int .i64 x2, .int .i64 x3], val := .slice none 0 0, born := 0 }] 1) → wpList Tryz.prog ops Q rest (a.put o.dst (.tuple #[.slice none 0 0, .int .i64 0])) w') : wpList Tryz.prog ops Q (o :: rest) a w := by
  refine wpList_plain hg fun K hK' => ?_
  have hf : (Instr.findKey 70 (.agg #[.int .i64 x1, .int .i64 x2, .int .i64 x3]) []).run Tryz.prog w = .ok none w := by
    simp [Instr.findKey, run_underlying Tryz.underlying70, Instr.findNow]
  have hrun : (Instr.mapEntry 59 (.map (some b)) (.agg #[.int .i64 x1, .int .i64 x2, .int .i64 x3])).run Tryz.prog w = .ok (.tuple #[.slice none 0 0, .int .i64 0]) (ChangeMaps.setBlock w b (.map #[{ key := .agg #[.int .i64 x1, .int .i64 x2, .int .i64 x3], val := .slice none 0 0, born := 0 }] 1)) := by
    simp [Instr.mapEntry, run_underlying Tryz.underlying59, MapKept.run_getObj_map hb, run_checkKey3, hf, MapKept.run_setObj_map _ hb, Result.andThen, goInt]
    rfl
  unfold Oper.wp
  simp [execOp, hop, hm, hx, hrun, Result.andThen]
  exact hK' _ _ (hK _ ⟨rfl, rfl, rfl, by simp [ChangeMaps.setBlock], fun i _ hi => ChangeMaps.heap_setBlock_other hb _ (fun e => hi (by rw [e]))⟩ (ChangeMaps.heap_setBlock_same hb _))
theorem wpList_entryStore3 (w : World) {ops : Array Oper} {rest : List Oper} {o : Oper} {a : Act} {Q : Exit → Act → World → Prop}
    (hg : o.guard = none) (m s x : Operand) (hop : o.op = Op.entryStore 59 m s x) (b : Nat) (key val : Value) (hb : w.heap[b]? = some (.map #[{ key, val, born := 0 }] 1)) (hm : a.eval m = .map (some b)) (hs : a.eval s = .int .i64 0)
    (hK : ∀ w', w.grownBy w' (some b) → wpList Tryz.prog ops Q rest (a.put o.dst undef) w') : wpList Tryz.prog ops Q (o :: rest) a w := by
  refine wpList_plain hg fun K hK' => ?_
  have hrun : ∃ es, (Instr.entryStore 59 (.map (some b)) (.int .i64 0) (a.eval x)).run Tryz.prog w = .ok () (ChangeMaps.setBlock w b (.map es 1)) :=
    ⟨_, by simp [Instr.entryStore, MapKept.run_getObj_map hb, asInt, asIntOf, MapKept.run_setObj_map _ hb, Result.andThen]; rfl⟩
  obtain ⟨es, hrun⟩ := hrun
  unfold Oper.wp
  simp [execOp, hop, hm, hs, hrun, Result.andThen]
  exact hK' _ _ (hK _ ⟨rfl, rfl, rfl, by simp [ChangeMaps.setBlock], fun i _ hi => ChangeMaps.heap_setBlock_other hb _ (fun e => hi (by rw [e]))⟩)

end Go.Proofs.Qxb6612460aGreatFmt
