import Derived.Test.Qxb6001154aSegs
import Derived.Maps.OwnSet
namespace Go.Proofs.Qxb6001154a
open Go.RowKit

/-- The first entry of a key. -/
def look {α : Type} (es : List (ByteArray × α)) (key : ByteArray) : Option α :=
  match es with
  | [] => none
  | p :: r => if key = p.1 then some p.2 else look r key

theorem look_append {α : Type} (key : ByteArray) : ∀ (es fs : List (ByteArray × α)), look (es ++ fs) key = (look es key).or (look fs key)
  | [], fs => by simp [look]
  | p :: r, fs => by
    simp only [List.cons_append, look]
    split
    · rfl
    · exact look_append key r fs

theorem look_map {α β : Type} (f : α → β) (key : ByteArray) : ∀ (es : List (ByteArray × α)), look (es.map fun p => (p.1, f p.2)) key = (look es key).map f
  | [] => rfl
  | p :: r => by
    simp only [List.map_cons, look]
    split
    · rfl
    · exact look_map f key r

/-- Block b of w is a map whose entries are es, in the order in which they were made. -/
def MapIs (w : World) (b : Nat) (es : List (ByteArray × Value)) : Prop :=
  ∃ entries clock, w.heap[b]? = some (.map entries clock) ∧ entries.toList.map (fun e => (e.key, e.val)) = es.map (fun p => (Value.string p.1, p.2))

theorem beq_bytes (a b : ByteArray) : (a == b) = decide (a = b) := by
  have h : (a == b) = (a.data == b.data) := rfl
  rw [h]
  by_cases h1 : a = b
  · subst h1; simp
  · have h2 : a.data ≠ b.data := fun e => h1 (by cases a; cases b; simp at e; rw [e])
    simp [h1, h2]

theorem findNow_str (key : ByteArray) : ∀ (l : List MapEntry) (es : List (ByteArray × Value)) (i : Nat), l.map (fun e => (e.key, e.val)) = es.map (fun p => (Value.string p.1, p.2)) →
    ∃ r, Instr.findNow .string (.string key) l i = some r ∧ r.map (·.2) = look es key ∧ (∀ j v, r = some (j, v) → i ≤ j ∧ j < i + l.length)
  | [], [], i, _ => ⟨none, rfl, rfl, by intro j v h; cases h⟩
  | [], _ :: _, _, h => by simp at h
  | _ :: _, [], _, h => by simp at h
  | e :: l, p :: es, i, h => by
    simp only [List.map_cons, List.cons.injEq, Prod.mk.injEq] at h
    obtain ⟨⟨hk, hv⟩, ht⟩ := h
    simp only [Instr.findNow, hk, Instr.sameNow, look, beq_bytes]
    by_cases hkey : key = p.1
    · rw [if_pos hkey]
      simp only [hkey, decide_true]
      exact ⟨some (i, e.val), rfl, by simp [hv], by intro j v hj; cases hj; simp⟩
    · rw [if_neg hkey]
      simp only [hkey, decide_false]
      obtain ⟨r, h1, h2, h3⟩ := findNow_str key l es (i + 1) ht
      exact ⟨r, h1, h2, by intro j v hj; have := h3 j v hj; simp; omega⟩

theorem run_checkKey_str {P : Program} {k : TypeId} (hk : P.underlying k = some .string) (emp : Bool) (n : Nat) (key : ByteArray) (w : World) : (Instr.checkKey emp (n + 1) k (.string key)).run P w = .ok () w := by
  simp [Instr.checkKey, run_underlying hk]

theorem run_lookup_str {P : Program} {w : World} {t k e : TypeId} (ht : P.underlying t = some (.map k e)) (hk : P.underlying k = some .string) {b : Nat} {es : List (ByteArray × Value)} (hb : MapIs w b es) (key : ByteArray) {z : Value} (hz : (zeroValue e).run P w = .ok z w) :
    (Instr.lookup t (.map (some b)) (.string key) false).run P w = .ok ((look es key).getD z) w := by
  obtain ⟨entries, clock, hh, hes⟩ := hb
  obtain ⟨r, h1, h2, _⟩ := findNow_str key entries.toList es 0 hes
  have hf : (Instr.findKey k (.string key) entries.toList).run P w = .ok r w := by
    simp [Instr.findKey, run_underlying hk, h1]
  cases r with
  | none =>
    simp only [Option.map_none] at h2
    simp [Instr.lookup, run_underlying ht, MapKept.run_getObj_map hh, run_checkKey_str hk, hf, hz, Result.andThen, ← h2]
  | some p =>
    simp only [Option.map_some] at h2
    simp [Instr.lookup, run_underlying ht, MapKept.run_getObj_map hh, run_checkKey_str hk, hf, Result.andThen, ← h2]

theorem run_update_str {P : Program} {w : World} {t k e : TypeId} (ht : P.underlying t = some (.map k e)) (hk : P.underlying k = some .string) {b : Nat} {es : List (ByteArray × Value)} (hb : MapIs w b es) (key : ByteArray) (v : Value) (hn : look es key = none) :
    ∃ w', (Instr.mapUpdate t (.map (some b)) (.string key) v).run P w = .ok () w' ∧ MapIs w' b (es ++ [(key, v)]) ∧ w.grownBy w' (some b) := by
  obtain ⟨entries, clock, hh, hes⟩ := hb
  obtain ⟨r, h1, h2, _⟩ := findNow_str key entries.toList es 0 hes
  have hr : r = none := by
    rw [hn] at h2
    cases r with
    | none => rfl
    | some p => cases h2
  subst hr
  have hf : (Instr.findKey k (.string key) entries.toList).run P w = .ok none w := by
    simp [Instr.findKey, run_underlying hk, h1]
  refine ⟨_, by simp [Instr.mapUpdate, run_underlying ht, MapKept.run_getObj_map hh, run_checkKey_str hk, hf, MapKept.run_setObj_map _ hh, Result.andThen]; rfl, ⟨_, _, ChangeMaps.heap_setBlock_same hh _, ?_⟩, ?_⟩
  · simp [hes]
  · exact ⟨rfl, rfl, rfl, by simp [ChangeMaps.setBlock], fun i _ hi => ChangeMaps.heap_setBlock_other hh _ (fun e => hi (by rw [e]))⟩

theorem MapIs.kept {w w' : World} {b : Nat} {es : List (ByteArray × Value)} (h : MapIs w b es) (hw : w'.heap[b]? = w.heap[b]?) : MapIs w' b es := by
  obtain ⟨entries, clock, hh, hes⟩ := h
  exact ⟨entries, clock, hw.trans hh, hes⟩

theorem MapIs.lt {w : World} {b : Nat} {es : List (ByteArray × Value)} (h : MapIs w b es) : b < w.heap.size := by
  obtain ⟨entries, clock, hh, _⟩ := h
  rcases Nat.lt_or_ge b w.heap.size with h1 | h1
  · exact h1
  · rw [Array.getElem?_eq_none h1] at hh; cases hh

/-- 'm[k]' at the operation. -/
theorem wpList_lookup_str {P : Program} (w : World) {ops : Array Oper} {rest : List Oper} {o : Oper} {a : Act} {Q : Exit → Act → World → Prop}
    (hg : o.guard = none) (m x : Operand) (t : TypeId) (hop : o.op = Op.lookup t m x false) (k e : TypeId) (ht : P.underlying t = some (.map k e)) (hk : P.underlying k = some .string)
    (b : Nat) (es : List (ByteArray × Value)) (hm : a.eval m = .map (some b)) (hb : MapIs w b es) (key : ByteArray) (hx : a.eval x = .string key) (z : Value) (hz : ∀ w, (zeroValue e).run P w = .ok z w)
    (v : Value) (hv : (look es key).getD z = v) (hK : wpList P ops Q rest (a.put o.dst v) w) : wpList P ops Q (o :: rest) a w := by
  refine wpList_plain hg fun K hK' => ?_
  have hrun := run_lookup_str ht hk hb key (hz w)
  rw [hv] at hrun
  unfold Oper.wp
  simp [execOp, hop, hm, hx, hrun, Result.andThen]
  exact hK' _ _ hK

/-- 'm[k] = v' at the operation, k not yet there. -/
theorem wpList_update_str {P : Program} (w : World) {ops : Array Oper} {rest : List Oper} {o : Oper} {a : Act} {Q : Exit → Act → World → Prop}
    (hg : o.guard = none) (m x y : Operand) (t : TypeId) (hop : o.op = Op.mapUpdate t m x y) (k e : TypeId) (ht : P.underlying t = some (.map k e)) (hk : P.underlying k = some .string)
    (b : Nat) (es : List (ByteArray × Value)) (hm : a.eval m = .map (some b)) (hb : MapIs w b es) (key : ByteArray) (hx : a.eval x = .string key) (v : Value) (hy : a.eval y = v)
    (hn : look es key = none) (hK : ∀ w', MapIs w' b (es ++ [(key, v)]) → w.grownBy w' (some b) → wpList P ops Q rest (a.put o.dst undef) w') : wpList P ops Q (o :: rest) a w := by
  refine wpList_plain hg fun K hK' => ?_
  obtain ⟨w', hrun, r1, r2⟩ := run_update_str (P := P) ht hk hb key v hn
  unfold Oper.wp
  simp [execOp, hop, hm, hx, hy, hrun, Result.andThen]
  exact hK' _ _ (hK w' r1 r2)

end Go.Proofs.Qxb6001154a
