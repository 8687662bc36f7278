import Derived.Test.Qxb6612460aGreatFmtMaps
namespace Go.Proofs.Qxb6612460aGreatFmt
open Go.RowKit
attribute [local go_sem] Option.isNone_none Option.isNone_some
attribute [local go_sem] sUpon mUpon
attribute [local go_sem] Mix.isVal Mix.makes

/-! ### The plain side of NewLedger: which island each GPU is of -/
def entFrom : Nat → List ByteArray → List (ByteArray × Value)
  | _, [] => []
  | k, x :: r => (x, natV k) :: entFrom (k + 1) r
def ent (nms : List ByteArray) : List (ByteArray × Value) := entFrom 0 nms
theorem entFrom_snoc (x : ByteArray) : ∀ (nms : List ByteArray) (k : Nat), entFrom k (nms ++ [x]) = entFrom k nms ++ [(x, natV (k + nms.length))]
  | [], k => by simp [entFrom]
  | y :: r, k => by
    simp only [List.cons_append, entFrom, entFrom_snoc x r (k + 1), List.length_cons]
    rw [show k + 1 + r.length = k + (r.length + 1) by omega]
theorem ent_snoc (nms : List ByteArray) (x : ByteArray) : ent (nms ++ [x]) = ent nms ++ [(x, natV nms.length)] := by
  have := entFrom_snoc x nms 0
  rwa [Nat.zero_add] at this
theorem look_entFrom_none (key : ByteArray) : ∀ (nms : List ByteArray) (k : Nat), key ∉ nms → look (entFrom k nms) key = none
  | [], _, _ => rfl
  | y :: r, k, h => by
    simp only [List.mem_cons, not_or] at h
    simp only [entFrom, look, if_neg h.1]
    exact look_entFrom_none key r (k + 1) h.2
theorem look_entFrom_some (key : ByteArray) : ∀ (nms : List ByteArray) (k i : Nat), nms.Nodup → nms[i]? = some key → look (entFrom k nms) key = some (natV (k + i))
  | [], _, i, _, h => by simp at h
  | y :: r, k, 0, _, h => by
    simp only [List.getElem?_cons_zero, Option.some.injEq] at h
    subst h
    simp [entFrom, look]
  | y :: r, k, i + 1, hn, h => by
    simp only [List.getElem?_cons_succ] at h
    obtain ⟨h1, h2⟩ := List.nodup_cons.1 hn
    have hne : key ≠ y := fun e => h1 (e ▸ List.mem_of_getElem? h)
    simp only [entFrom, look, if_neg hne]
    rw [look_entFrom_some key r (k + 1) i h2 h]
    congr 2
    omega
theorem look_ent_none {nms : List ByteArray} {key : ByteArray} (h : key ∉ nms) : look (ent nms) key = none := look_entFrom_none key nms 0 h
theorem look_ent_some {nms : List ByteArray} {key : ByteArray} {i : Nat} (hn : nms.Nodup) (h : nms[i]? = some key) : look (ent nms) key = some (natV i) := by
  have := look_entFrom_some key nms 0 i hn h
  rwa [Nat.zero_add] at this

theorem cntI_snoc (ps : List (Nat × Bool)) (p : Nat × Bool) (r : Int) : cntI (ps ++ [p]) r = cntI ps r + (if p.2 = true ∧ (p.1 : Int) = r then 1 else 0) := by
  unfold cntI
  rw [List.countP_append, List.countP_cons, List.countP_nil, Nat.zero_add]
  congr 1
  simp [Bool.and_eq_true, beq_iff_eq]
theorem cntI_big (ps : List (Nat × Bool)) (n c : Nat) (h : ∀ p ∈ ps, p.1 < n) (hc : n ≤ c) : cntI ps c = 0 := by
  unfold cntI
  rw [List.countP_eq_zero]
  intro p hp
  have := h p hp
  simp
  intro _
  omega
theorem FrOf.grow {ps : List (Nat × Bool)} {fr : List Nat} (h : FrOf ps fr) : FrOf ps (fr ++ [0]) := by
  obtain ⟨h1, h2, h3⟩ := h
  refine ⟨fun c => ?_, fun p hp => by have := h2 p hp; simp; omega, ?_⟩
  · rcases Nat.lt_or_ge c fr.length with hc | hc
    · rw [List.getElem?_append_left hc]; exact h1 c
    · rw [cntI_big ps fr.length c h2 hc]
      rcases Nat.eq_or_lt_of_le hc with e | e
      · subst e; simp
      · rw [List.getElem?_eq_none (by simp; omega)]; rfl
  · have : ∀ l : List Nat, sumN (l ++ [0]) = sumN l := by
      intro l
      induction l with
      | nil => rfl
      | cons x r ih => simp [sumN, ih]
    rw [this]; exact h3
theorem FrOf.bad {ps : List (Nat × Bool)} {fr : List Nat} (h : FrOf ps fr) {k : Nat} (hk : k < fr.length) : FrOf (ps ++ [(k, false)]) fr := by
  obtain ⟨h1, h2, h3⟩ := h
  refine ⟨fun c => by rw [cntI_snoc, if_neg (by simp)]; exact h1 c, fun p hp => ?_, by simpa using h3⟩
  rcases List.mem_append.1 hp with h | h
  · exact h2 p h
  · simp at h; subst h; exact hk
theorem FrOf.good {ps : List (Nat × Bool)} {fr : List Nat} (h : FrOf ps fr) {k : Nat} (hk : k < fr.length) : FrOf (ps ++ [(k, true)]) (fr.set k (fr[k]?.getD 0 + 1)) := by
  obtain ⟨h1, h2, h3⟩ := h
  refine ⟨fun c => ?_, fun p hp => ?_, ?_⟩
  · rw [cntI_snoc]
    by_cases hc : c = k
    · subst hc
      rw [if_pos ⟨rfl, rfl⟩, List.getElem?_set_self hk, Option.getD_some, h1 c]
    · rw [if_neg (fun e => hc (by have := e.2; simp only at this; omega)), List.getElem?_set_ne (Ne.symm hc)]
      exact h1 c
  · rw [List.length_set]
    rcases List.mem_append.1 hp with h | h
    · exact h2 p h
    · simp at h; subst h; exact hk
  · have := sumN_set fr k (fr[k]?.getD 0 + 1) hk
    simp only [List.countP_append, List.countP_singleton]
    simp
    omega

/-- What is known of the GPUs so far: pre: their islands' names and whether unhealthy. -/
structure St (pre : List (ByteArray × Bool)) (nms : List ByteArray) (ps : List (Nat × Bool)) (fr : List Nat) : Prop where
  nodup : nms.Nodup
  len : fr.length = nms.length
  fr : FrOf ps fr
  plen : ps.length = pre.length
  at' : ∀ (i : Nat) (d : ByteArray × Bool), pre[i]? = some d → ∃ p, ps[i]? = some p ∧ p.2 = !d.2 ∧ nms[p.1]? = some d.1
  few : nms.length ≤ pre.length
theorem St.nil : St [] [] [] [] := ⟨.nil, rfl, ⟨fun c => by simp [cntI], fun p h => by simp at h, rfl⟩, rfl, fun i d h => by simp at h, Nat.le_refl _⟩
/-- One GPU more. -/
theorem St.next {pre : List (ByteArray × Bool)} {nms nms' : List ByteArray} {ps : List (Nat × Bool)} {fr fr' : List Nat} (h : St pre nms ps fr) (d : ByteArray × Bool) (k : Nat) (hn' : nms'.Nodup) (hl' : fr'.length = nms'.length) (hf : FrOf (ps ++ [(k, !d.2)]) fr')
    (hold : ∀ (i : Nat) x, nms[i]? = some x → nms'[i]? = some x) (hk : nms'[k]? = some d.1) (hfew : nms'.length ≤ nms.length + 1) : St (pre ++ [d]) nms' (ps ++ [(k, !d.2)]) fr' where
  nodup := hn'
  len := hl'
  fr := hf
  plen := by simp [h.plen]
  at' := fun i e he => by
    rcases Nat.lt_or_ge i pre.length with hi | hi
    · rw [List.getElem?_append_left hi] at he
      obtain ⟨p, h1, h2, h3⟩ := h.at' i e he
      exact ⟨p, by rw [List.getElem?_append_left (by rw [h.plen]; exact hi)]; exact h1, h2, hold _ _ h3⟩
    · have hi' : i = pre.length := by
        rcases Nat.eq_or_lt_of_le hi with e' | e'
        · exact e'.symm
        · rw [List.getElem?_eq_none (by simp; omega)] at he; cases he
      subst hi'
      rw [List.getElem?_append_right (Nat.le_refl _)] at he
      simp at he
      subst he
      exact ⟨(k, !d.2), by rw [List.getElem?_append_right (by rw [h.plen]; exact Nat.le_refl _)]; simp [h.plen], rfl, hk⟩
  few := by have := h.few; simp; omega
theorem St.same {pre : List (ByteArray × Bool)} {nms : List ByteArray} {ps : List (Nat × Bool)} {fr : List Nat} (h : St pre nms ps fr) {i j : Nat} {d e : ByteArray × Bool} {p q : Nat × Bool} (hi : pre[i]? = some d) (hj : pre[j]? = some e) (hp : ps[i]? = some p) (hq : ps[j]? = some q) : p.1 = q.1 ↔ d.1 = e.1 := by
  obtain ⟨p', h1, _, h3⟩ := h.at' i d hi
  obtain ⟨q', h4, _, h6⟩ := h.at' j e hj
  rw [hp] at h1; cases h1
  rw [hq] at h4; cases h4
  constructor
  · intro e1
    rw [e1, h6] at h3
    exact (Option.some.inj h3).symm
  · intro e1
    rw [← e1] at h6
    have hl := (List.getElem?_eq_some_iff.1 h3).1
    exact (List.getElem?_inj hl h.nodup).1 (h3.trans h6.symm)

/-! ### Some blocks alone turn -/
structure OnlyS (S : List Nat) (w w' : World) : Prop where
  os : w'.os = w.os
  tape : w'.tape = w.tape
  output : w'.output = w.output
  size : w.heap.size ≤ w'.heap.size
  block : ∀ k, k < w.heap.size → k ∉ S → w'.heap[k]? = w.heap[k]?
theorem OnlyS.of {S : List Nat} {w w' : World} (h : Below w.heap.size w w') : OnlyS S w w' := ⟨h.os, h.tape, h.output, h.size, fun k hk _ => h.block k hk⟩
theorem OnlyS.refl (S : List Nat) (w : World) : OnlyS S w w := OnlyS.of (Below.refl _ _)
theorem OnlyS.trans {S : List Nat} {a c d : World} (h : OnlyS S a c) (k : OnlyS S c d) : OnlyS S a d :=
  ⟨k.os.trans h.os, k.tape.trans h.tape, k.output.trans h.output, Nat.le_trans h.size k.size, fun q hq hne => (k.block q (Nat.lt_of_lt_of_le hq h.size) hne).trans (h.block q hq hne)⟩
/-- A cell written: of a block of S, or of a new one. -/
theorem OnlyS.setCell {S : List Nat} {a c : World} (h : OnlyS S a c) {p : Addr} (hp : p.block ∈ S ∨ a.heap.size ≤ p.block) (v : Value) : OnlyS S a (c.setCell p v) :=
  ⟨h.os, h.tape, h.output, by simpa [World.setCell] using h.size, fun q hq hne => (Below.heap_setCell c p v q (by
    rcases hp with h1 | h1
    · exact fun e => hne (e ▸ h1)
    · omega)).trans (h.block q hq hne)⟩
theorem OnlyS.grown {S : List Nat} {a c d : World} (h : OnlyS S a c) {row : Option Nat} (hg : c.grownBy d row) (hr : ∀ g, row = some g → g ∈ S ∨ a.heap.size ≤ g) : OnlyS S a d :=
  ⟨hg.os.trans h.os, hg.tape.trans h.tape, hg.output.trans h.output, Nat.le_trans h.size hg.size, fun q hq hne => (hg.block q (Nat.lt_of_lt_of_le hq h.size) (fun e => by
    rcases hr q e.symm with h1 | h1
    · exact hne h1
    · omega)).trans (h.block q hq hne)⟩
theorem OnlyS.only {S : List Nat} {b : Nat} {a c d : World} (h : OnlyS S a c) (k : Only b c d) (hb : b ∈ S ∨ a.heap.size ≤ b) : OnlyS S a d :=
  ⟨k.os.trans h.os, k.tape.trans h.tape, k.output.trans h.output, Nat.le_trans h.size k.size, fun q hq hne => (k.block q (Nat.lt_of_lt_of_le hq h.size) (by
    rcases hb with h1 | h1
    · exact fun e => hne (e ▸ h1)
    · omega)).trans (h.block q hq hne)⟩
theorem OnlyS.cell {S : List Nat} {w w' : World} (h : OnlyS S w w') {p : Addr} {v : Value} (hv : w.cell? p = some v) (hne : p.block ∉ S) : w'.cell? p = some v := by
  have : w'.cell? p = w.cell? p := by
    unfold World.cell?
    rw [h.block _ (cell_lt hv) hne]
  exact this.trans hv
theorem OnlyS.blk {S : List Nat} {w w' : World} (h : OnlyS S w w') {k : Nat} {o : Obj} (ho : w.heap[k]? = some o) (hne : k ∉ S) : w'.heap[k]? = some o := (h.block k (heap_lt ho) hne).trans ho
theorem OnlyS.below {S : List Nat} {B : Nat} {w w' : World} (h : OnlyS S w w') (hB : B ≤ w.heap.size) (hS : ∀ k ∈ S, B ≤ k) : Below B w w' := ⟨h.os, h.tape, h.output, h.size, fun k hk => h.block k (by omega) (fun e => by have := hS k e; omega)⟩
theorem OnlyS.owns {S : List Nat} {w w' : World} {base : Nat} {e : TypeId} {size : Nat} {v : Value} {n : Nat} {xs : List Value} (h : OnlyS S w w') (ho : w.ownsRow base e size v n xs) (hne : ∀ g, v.ownBlock = some g → g ∉ S) : w'.ownsRow base e size v n xs :=
  ownsRow_same ho (fun g hg => h.block g (ownsRow_lt ho g hg) (hne g hg))

end Go.Proofs.Qxb6612460aGreatFmt
