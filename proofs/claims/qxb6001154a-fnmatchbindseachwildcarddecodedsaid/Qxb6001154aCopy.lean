import Derived.Test.Qxb6001154aClone
import Derived.Lib.BufferWrite
import Derived.Lib.IndexLaws
namespace Go.Proofs.Qxb6001154a
open Go.RowKit

/-- 'copy(dst, s)', dst a row of the call's own of n cells, s a string of at least n bytes. -/
theorem wpList_copy_str {P : Program} (w : World) {ops : Array Oper} {rest : List Oper} {o : Oper} {a : Act} {Q : Exit → Act → World → Prop} (hgd : o.guard = none) (d x : Operand) (dT sT : TypeId)
    (ho : o.op = .call { callee := .builtin .copy, args := #[d, x], argTypes := #[dT, sT] }) (elem : TypeId) (hu : P.underlying dT = some (.slice elem)) (hsz : (P.info? elem).map (·.size) = some 1)
    (base g n cap : Nat) (xs : List Value) (s : ByteArray) (hd : a.eval d = .slice (some ⟨g, 0, none⟩) n cap) (hx : a.eval x = .string s) (hn : n ≤ s.size)
    (hown : w.ownsRow base elem 1 (.slice (some ⟨g, 0, none⟩) n cap) n xs)
    (h : ∀ w', w'.ownsRow base elem 1 (.slice (some ⟨g, 0, none⟩) n cap) n (Lib.byteCells (s.data.toList.take n)) → w.grownBy w' (some g) → wpList P ops Q rest (a.put o.dst (goInt n)) w') :
    wpList P ops Q (o :: rest) a w := by
  refine wpList_plain hgd fun K hK => ?_
  rcases hown.2 with ⟨h', _⟩ | ⟨g', cap', cur, h', hb, hg, hnc, hcm, hcs, htake⟩
  · simp at h'
  simp only [Value.slice.injEq, Option.some.injEq, Addr.mk.injEq, and_true, true_and] at h'
  obtain ⟨rfl, rfl⟩ := h'
  have hlen : (Lib.byteCells (s.data.toList.take n)).length = n := by
    rw [Lib.byteCells_length, List.length_take, ← Lib.size_eq]; omega
  have hst := run_storeCells_at P g 0 elem (Lib.byteCells (s.data.toList.take n)) 0 cur w hg (by rw [hlen]; omega) (Lib.byteCells_one _)
  rw [hlen] at hst
  simp only [Nat.add_zero, Nat.zero_add, List.take_zero, List.nil_append] at hst
  have hmin : Nat.min s.size n = n := Nat.min_eq_right hn
  have htk : List.take n (List.map (fun b : UInt8 => Value.int IntKind.u8 (b.toNat : Int)) s.data.toList) = Lib.byteCells (s.data.toList.take n) := by
    rw [← List.map_take]; rfl
  have hrun : (Builtin.copy_ #[dT, sT] o.type #[.slice (some ⟨g, 0, none⟩) n cap, .string s]).run P w = .ok (goInt n) (w.setRow g (Lib.byteCells (s.data.toList.take n) ++ cur.toList.drop n).toArray) := by
    cases hq : P.info? elem with
    | none => simp [hq] at hsz
    | some i =>
      simp [Builtin.copy_, run_underlying hu, Builtin.lenOf, Builtin.firstCells, sizeOf, typeInfo, hq, hmin]
      rw [htk, hst]
      simp [Result.andThen]
  unfold Oper.wp
  simp [execOp, ho, resolve, invoke, builtin, hd, hx, hrun, Result.andThen]
  refine hK _ _ (h _ ⟨by rw [hlen]; omega, .inr ⟨g, cap, _, rfl, hb, setRow_heap w g cur _ elem (0, 0) hg, hnc, hcm, ?_, ?_⟩⟩ ⟨rfl, rfl, rfl, by simp, fun k _ hk => setRow_other w g k _ (fun e => hk (by rw [e]))⟩)
  · simp [hlen]; omega
  · simp [hlen]

theorem foldl_push : ∀ (l : List UInt8) (acc : ByteArray), ((l.map fun b => ((b.toNat : Nat) : Int)).foldl (fun r n => r.push (UInt8.ofNat n.toNat)) acc).data.toList = acc.data.toList ++ l
  | [], acc => by simp
  | b :: l, acc => by
    simp only [List.map_cons, List.foldl_cons]
    rw [foldl_push l]
    simp [ByteArray.push]

theorem bytes_ext {a b : ByteArray} (h : a.data.toList = b.data.toList) : a = b := by
  cases a; cases b
  simp only [ByteArray.mk.injEq]
  exact Array.toList_inj.1 h

/-- 'string(b)', b a row of the call's own that holds bytes. -/
theorem run_string_of {w : World} {base : Nat} {v : Value} {n : Nat} {l : List UInt8} (hown : w.ownsRow base 5 1 v n (Lib.byteCells l)) :
    (convert 53 9 v).run Try.prog w = .ok (.string ⟨l.toArray⟩) w := by
  have hl : l.length = n := by have := hown.1; rw [Lib.byteCells_length] at this; omega
  rcases hown.2 with ⟨rfl, h0⟩ | ⟨g, cap, cur, rfl, hb, hg, hnc, hcm, hcs, htake⟩
  · have : l = [] := List.eq_nil_of_length_eq_zero (by omega)
    subst this
    rw [run_convert_bytes_string w 53 9 5 _ _ _ Try.underlying53 Try.underlying5 Try.underlying9]
    rfl
  · rw [run_convert_bytes_string w 53 9 5 _ _ _ Try.underlying53 Try.underlying5 Try.underlying9]
    rw [run_bytesToString w ⟨g, 0, none⟩ n cap (l.map fun b => ((b.toNat : Nat) : Int))]
    · congr 2
      apply bytes_ext
      rw [foldl_push]
      simp
    · have e1 : (l.map fun b => ((b.toNat : Nat) : Int)).map (Value.int .u8) = Lib.byteCells l := by simp [Lib.byteCells]
      rw [e1]
      have h2 := run_loadCells_list (P := Try.prog) (w := w) ⟨g, 0, none⟩ (Lib.byteCells l) (fun j u hu => by
        have hj : j < n * 1 := by
          rcases Nat.lt_or_ge j (Lib.byteCells l).length with h | h
          · rw [Lib.byteCells_length] at h; omega
          · rw [List.getElem?_eq_none h] at hu; cases hu
        have := hown.cellAt j hj
        have e2 : (⟨g, 0, none⟩ : Addr).add j = ⟨g, j, none⟩ := by
          by_cases h0 : j = 0
          · subst h0; rfl
          · simp [Addr.add, h0]
        rw [e2, this]; exact hu)
      rw [Lib.byteCells_length, hl] at h2
      exact h2

end Go.Proofs.Qxb6001154a
