/-
  The map of the first nodes of each spec: keys are arrays of three integers.
-/
import Derived.Test.Qxb6612460aGreatFmtMaps
import Derived.ChangeKeysEq
import Derived.Laws.StructEq
namespace Go.Proofs.Qxb6612460aGreatFmt
open Go.RowKit

def key3 (k : Int × Int × Int) : Value := .agg #[.int .i64 k.1, .int .i64 k.2.1, .int .i64 k.2.2]
theorem Tryz.info2s : (Tryz.prog.info? 2).isSome = true := by kernel_rfl
theorem Tryz.cells2 : Tryz.prog.cellsOf 2 = 1 := by kernel_rfl
theorem Tryz.plain2 : Tryz.prog.plainKey 2 = true := by kernel_rfl

theorem eq3 (k l : Int × Int × Int) (w : World) : (Op.equal 70 (key3 k) (key3 l)).run Tryz.prog w = .ok (decide (k = l)) w := by
  obtain ⟨i, hi⟩ := Option.isSome_iff_exists.1 Tryz.info2s
  obtain ⟨k1, k2, k3⟩ := k
  obtain ⟨l1, l2, l3⟩ := l
  unfold Op.equal key3
  rw [show Op.maxDepth = 9998 + 1 + 1 from rfl, run_equalIn_array w (9998 + 1) _ _ Tryz.underlying70 hi, Tryz.cells2]
  have p : ∀ (xs : Array Value) (i : Nat) (v : Value), xs[i]? = some v → (part 2 xs i).run Tryz.prog w = .ok v w := fun xs i v h => run_part_plain w Tryz.plain2 h
  have e : ∀ a b : Int, (Op.equalIn (9998 + 1) 2 (.int .i64 a) (.int .i64 b)).run Tryz.prog w = .ok (a == b) w := fun a b => run_equalIn_int w 9998 2 .i64 .i64 a b Tryz.underlying2
  simp only [List.range, List.range.loop, Op.eqItems, Sem.run_bind, Nat.mul_one, p #[.int .i64 k1, .int .i64 k2, .int .i64 k3] 0 (.int .i64 k1) rfl, p #[.int .i64 l1, .int .i64 l2, .int .i64 l3] 0 (.int .i64 l1) rfl, e, Result.andThen_ok]
  by_cases h1 : k1 = l1 <;> by_cases h2 : k2 = l2 <;> by_cases h3 : k3 = l3 <;> simp [h1, h2, h3, e, p, Result.andThen]

/-- The first entry of a key. -/
def look3 {α : Type} (es : List ((Int × Int × Int) × α)) (key : Int × Int × Int) : Option α :=
  match es with
  | [] => none
  | p :: r => if key = p.1 then some p.2 else look3 r key

theorem findAsking3 (key : Int × Int × Int) (w : World) : ∀ (l : List MapEntry) (es : List ((Int × Int × Int) × Value)) (i : Nat), l.map (fun e => (e.key, e.val)) = es.map (fun p => (key3 p.1, p.2)) →
    ∃ r, (Instr.findAsking 70 (key3 key) l i).run Tryz.prog w = .ok r w ∧ r.map (·.2) = look3 es key
  | [], [], i, _ => ⟨none, by simp [Instr.findAsking], rfl⟩
  | [], _ :: _, _, h => by simp at h
  | _ :: _, [], _, h => by simp at h
  | e :: l, p :: es, i, h => by
    simp only [List.map_cons, List.cons.injEq, Prod.mk.injEq] at h
    obtain ⟨⟨hk, hv⟩, ht⟩ := h
    by_cases hkey : key = p.1
    · refine ⟨some (i, e.val), ?_, by simp [look3, hkey, hv]⟩
      simp [Instr.findAsking, hk, eq3, hkey, Result.andThen]
    · obtain ⟨r, h1, h2⟩ := findAsking3 key w l es (i + 1) ht
      refine ⟨r, ?_, by simp [look3, hkey, h2]⟩
      simp [Instr.findAsking, hk, eq3, hkey, Result.andThen, h1]

theorem findKey3 (key : Int × Int × Int) (w : World) (l : List MapEntry) (es : List ((Int × Int × Int) × Value)) (h : l.map (fun e => (e.key, e.val)) = es.map (fun p => (key3 p.1, p.2))) :
    ∃ r, (Instr.findKey 70 (key3 key) l).run Tryz.prog w = .ok r w ∧ r.map (·.2) = look3 es key := by
  cases l with
  | nil =>
    cases es with
    | nil => exact ⟨none, by simp [Instr.findKey, run_underlying Tryz.underlying70, Instr.findNow], rfl⟩
    | cons p r => simp at h
  | cons e l =>
    cases es with
    | nil => simp at h
    | cons p es =>
      obtain ⟨r, h1, h2⟩ := findAsking3 key w (e :: l) (p :: es) 0 h
      refine ⟨r, ?_, h2⟩
      simp [Instr.findKey, run_underlying Tryz.underlying70, Instr.findNow, Instr.sameNow, h1]

/-- Block b of w is a map whose entries are es, numbered by their births. -/
def MapIs3 (w : World) (b : Nat) (es : List ((Int × Int × Int) × Value)) : Prop :=
  ∃ entries : Array MapEntry, w.heap[b]? = some (.map entries entries.size) ∧ entries.toList.map (fun e => (e.key, e.val)) = es.map (fun p => (key3 p.1, p.2)) ∧ ∀ (i : Nat) (e : MapEntry), entries[i]? = some e → e.born < entries.size
theorem MapIs3.kept {w w' : World} {b : Nat} {es : List ((Int × Int × Int) × Value)} (h : MapIs3 w b es) (hw : w'.heap[b]? = w.heap[b]?) : MapIs3 w' b es := by
  obtain ⟨entries, hh, hes, hbo⟩ := h
  exact ⟨entries, hw.trans hh, hes, hbo⟩
theorem MapIs3.lt {w : World} {b : Nat} {es : List ((Int × Int × Int) × Value)} (h : MapIs3 w b es) : b < w.heap.size := by
  obtain ⟨entries, hh, _⟩ := h
  rcases Nat.lt_or_ge b w.heap.size with h1 | h1
  · exact h1
  · rw [Array.getElem?_eq_none h1] at hh; cases hh
theorem run_checkKeyK (emp : Bool) (k : Int × Int × Int) (w : World) : (Instr.checkKey emp 10000 70 (key3 k)).run Tryz.prog w = .ok () w := run_checkKey3 emp k.1 k.2.1 k.2.2 w

/-- 'm[k]' at the operation. -/
theorem wpList_lookupK (w : World) {ops : Array Oper} {rest : List Oper} {o : Oper} {a : Act} {Q : Exit → Act → World → Prop}
    (hg : o.guard = none) (m x : Operand) (hop : o.op = Op.lookup 59 m x false) (b : Nat) (es : List ((Int × Int × Int) × Value)) (hb : MapIs3 w b es) (key : Int × Int × Int) (hm : a.eval m = .map (some b)) (hx : a.eval x = key3 key)
    (v : Value) (hv : (look3 es key).getD (.slice none 0 0) = v)
    (hK : wpList Tryz.prog ops Q rest (a.put o.dst v) w) : wpList Tryz.prog ops Q (o :: rest) a w := by
  refine wpList_plain hg fun K hK' => ?_
  obtain ⟨entries, hh, hes, -⟩ := hb
  obtain ⟨r, h1, h2⟩ := findKey3 key w entries.toList es hes
  have hrun : (Instr.lookup 59 (.map (some b)) (key3 key) false).run Tryz.prog w = .ok v w := by
    cases r with
    | none =>
      simp only [Option.map_none] at h2
      rw [← h2] at hv
      simp only [Option.getD_none] at hv
      simp [Instr.lookup, run_underlying Tryz.underlying59, MapKept.run_getObj_map hh, run_checkKeyK, h1, Result.andThen, ← hv]
    | some p =>
      simp only [Option.map_some] at h2
      rw [← h2] at hv
      simp only [Option.getD_some] at hv
      simp [Instr.lookup, run_underlying Tryz.underlying59, MapKept.run_getObj_map hh, run_checkKeyK, h1, Result.andThen, ← hv]
  unfold Oper.wp
  simp [execOp, hop, hm, hx, hrun, Result.andThen]
  exact hK' _ _ hK
/-- The entry of a key that is not yet there, before its value is stored. -/
def MapHalf3 (w : World) (b : Nat) (es : List ((Int × Int × Int) × Value)) (key : Int × Int × Int) : Prop :=
  ∃ entries : Array MapEntry, w.heap[b]? = some (.map (entries.push { key := key3 key, val := .slice none 0 0, born := entries.size }) (entries.size + 1)) ∧ entries.toList.map (fun e => (e.key, e.val)) = es.map (fun p => (key3 p.1, p.2)) ∧ ∀ (i : Nat) (e : MapEntry), entries[i]? = some e → e.born < entries.size
theorem wpList_mapEntryK (w : World) {ops : Array Oper} {rest : List Oper} {o : Oper} {a : Act} {Q : Exit → Act → World → Prop}
    (hg : o.guard = none) (m x : Operand) (hop : o.op = Op.mapEntry 59 m x) (b : Nat) (es : List ((Int × Int × Int) × Value)) (hb : MapIs3 w b es) (key : Int × Int × Int) (hm : a.eval m = .map (some b)) (hx : a.eval x = key3 key) (hn : look3 es key = none)
    (hK : ∀ w', w.grownBy w' (some b) → MapHalf3 w' b es key → wpList Tryz.prog ops Q rest (a.put o.dst (.tuple #[.slice none 0 0, .int .i64 (es.length : Nat)])) w') : wpList Tryz.prog ops Q (o :: rest) a w := by
  refine wpList_plain hg fun K hK' => ?_
  obtain ⟨entries, hh, hes, hbo⟩ := hb
  obtain ⟨r, h1, h2⟩ := findKey3 key w entries.toList es hes
  rw [hn] at h2
  have hr : r = none := by
    cases r with
    | none => rfl
    | some p => cases h2
  subst hr
  have hlen : entries.size = es.length := by have := congrArg List.length hes; simpa using this
  have hrun : (Instr.mapEntry 59 (.map (some b)) (key3 key)).run Tryz.prog w = .ok (.tuple #[.slice none 0 0, .int .i64 (es.length : Nat)]) (ChangeMaps.setBlock w b (.map (entries.push { key := key3 key, val := .slice none 0 0, born := entries.size }) (entries.size + 1))) := by
    simp [Instr.mapEntry, run_underlying Tryz.underlying59, MapKept.run_getObj_map hh, run_checkKeyK, h1, MapKept.run_setObj_map _ hh, Result.andThen, goInt, hlen]
    try rfl
  unfold Oper.wp
  simp [execOp, hop, hm, hx, hrun, Result.andThen]
  exact hK' _ _ (hK _ ⟨rfl, rfl, rfl, by simp [ChangeMaps.setBlock], fun i _ hi => ChangeMaps.heap_setBlock_other hh _ (fun e => hi (by rw [e]))⟩ ⟨entries, ChangeMaps.heap_setBlock_same hh _, hes, hbo⟩)
theorem MapHalf3.kept {w w' : World} {b : Nat} {es : List ((Int × Int × Int) × Value)} {key : Int × Int × Int} (h : MapHalf3 w b es key) (hw : w'.heap[b]? = w.heap[b]?) : MapHalf3 w' b es key := by
  obtain ⟨entries, hh, hes, hbo⟩ := h
  exact ⟨entries, hw.trans hh, hes, hbo⟩
theorem wpList_entryStoreK (w : World) {ops : Array Oper} {rest : List Oper} {o : Oper} {a : Act} {Q : Exit → Act → World → Prop}
    (hg : o.guard = none) (m s x : Operand) (hop : o.op = Op.entryStore 59 m s x) (b : Nat) (es : List ((Int × Int × Int) × Value)) (key : Int × Int × Int) (hb : MapHalf3 w b es key) (hm : a.eval m = .map (some b)) (hs : a.eval s = .int .i64 (es.length : Nat)) (v : Value) (hx : a.eval x = v)
    (hK : ∀ w', w.grownBy w' (some b) → MapIs3 w' b (es ++ [(key, v)]) → wpList Tryz.prog ops Q rest (a.put o.dst undef) w') : wpList Tryz.prog ops Q (o :: rest) a w := by
  refine wpList_plain hg fun K hK' => ?_
  obtain ⟨entries, hh, hes, hbo⟩ := hb
  have hlen : entries.size = es.length := by have := congrArg List.length hes; simpa using this
  have hidx : (entries.push { key := key3 key, val := .slice none 0 0, born := entries.size }).findIdx? (fun e => ((e.born : Nat) : Int) == ((es.length : Nat) : Int)) = some entries.size := by
    have h0 : entries.findIdx? (fun e => ((e.born : Nat) : Int) == ((es.length : Nat) : Int)) = none := by
      rw [Array.findIdx?_eq_none_iff]
      intro e he
      obtain ⟨i, hi, rfl⟩ := Array.mem_iff_getElem.1 he
      have := hbo i _ (Array.getElem?_eq_getElem hi)
      simp
      omega
    rw [Array.findIdx?_push, h0]
    simp [hlen]
  have hrun : (Instr.entryStore 59 (.map (some b)) (.int .i64 (es.length : Nat)) v).run Tryz.prog w = .ok () (ChangeMaps.setBlock w b (.map (entries.push { key := key3 key, val := v, born := entries.size }) (entries.size + 1))) := by
    simp [Instr.entryStore, MapKept.run_getObj_map hh, asInt, asIntOf, MapKept.run_setObj_map _ hh, hidx, Result.andThen]
    congr 3
    rw [← Array.toList_inj, Array.toList_modify, Array.toList_push, Array.toList_push, ← Array.length_toList]
    exact WideElems.modify_last _ _ _
  unfold Oper.wp
  simp [execOp, hop, hm, hs, hx, hrun, Result.andThen]
  refine hK' _ _ (hK _ ⟨rfl, rfl, rfl, by simp [ChangeMaps.setBlock], fun i _ hi => ChangeMaps.heap_setBlock_other hh _ (fun e => hi (by rw [e]))⟩ ⟨entries.push { key := key3 key, val := v, born := entries.size }, ?_, ?_, ?_⟩)
  · rw [Array.size_push]; exact ChangeMaps.heap_setBlock_same hh _
  · simp [hes]
  · intro i e he
    rw [Array.size_push]
    rw [Array.getElem?_push] at he
    split at he
    · cases he; simp
    · have := hbo i e he; omega

end Go.Proofs.Qxb6612460aGreatFmt
