import Derived.Test.Qxb6612460aGreatFmtSpread
import Derived.Test.Qxb6612460aGreatFmtTaking
namespace Go.Proofs.Qxb6612460aGreatFmt
open Go.RowKit
attribute [local go_sem] sUpon mUpon

/-! ### The plain side of pick: a node's GPUs are pairs (island, healthy) -/
def cntI (ps : List (Nat × Bool)) (r : Int) : Nat := ps.countP (fun p => p.2 && ((p.1 : Int) == r))
theorem cntI_nil (r : Int) : cntI [] r = 0 := rfl
theorem cntI_cons (p : Nat × Bool) (ps : List (Nat × Bool)) (r : Int) : cntI (p :: ps) r = cntI ps r + (if p.2 = true ∧ (p.1 : Int) = r then 1 else 0) := by
  unfold cntI
  rw [List.countP_cons]
  congr 1
  simp [Bool.and_eq_true, beq_iff_eq]

def Chosen (ps : List (Nat × Bool)) (i : Nat) (L : List Nat) : Prop := L.Pairwise (· < ·) ∧ ∀ id ∈ L, id < i ∧ ∃ p, ps[id]? = some p ∧ p.2 = true
theorem Chosen.nil (ps : List (Nat × Bool)) (i : Nat) : Chosen ps i [] := ⟨.nil, fun id h => by simp at h⟩
theorem Chosen.skip {ps : List (Nat × Bool)} {i : Nat} {L : List Nat} (h : Chosen ps i L) : Chosen ps (i + 1) L := ⟨h.1, fun id hid => ⟨by have := (h.2 id hid).1; omega, (h.2 id hid).2⟩⟩
theorem Chosen.take {ps : List (Nat × Bool)} {i : Nat} {L : List Nat} (h : Chosen ps i L) (p : Nat × Bool) (hp : ps[i]? = some p) (h2 : p.2 = true) : Chosen ps (i + 1) (L ++ [i]) := by
  refine ⟨List.pairwise_append.2 ⟨h.1, List.pairwise_singleton _ _, fun a ha b hb => ?_⟩, fun id hid => ?_⟩
  · simp at hb; subst hb; exact (h.2 a ha).1
  · rcases List.mem_append.1 hid with h' | h'
    · exact ⟨by have := (h.2 id h').1; omega, (h.2 id h').2⟩
    · simp at h'; subst h'; exact ⟨by omega, p, hp, h2⟩

def IslInv (ps : List (Nat × Bool)) (r : Int) (k i : Nat) (L : List Nat) : Prop :=
  L.length ≤ k ∧ k ≤ L.length + cntI (ps.drop i) r ∧ Chosen ps i L ∧ ∀ id ∈ L, ∃ p, ps[id]? = some p ∧ (p.1 : Int) = r

theorem drop_at {ps : List (Nat × Bool)} {i : Nat} {p : Nat × Bool} (hp : ps[i]? = some p) : ps.drop i = p :: ps.drop (i + 1) := by
  obtain ⟨h, rfl⟩ := List.getElem?_eq_some_iff.1 hp
  exact List.drop_eq_getElem_cons h

theorem isl_start (ps : List (Nat × Bool)) (r : Int) (k : Nat) (h : k ≤ cntI ps r) : IslInv ps r k 0 [] :=
  ⟨Nat.zero_le _, by simpa using h, .nil _ _, fun id h => by simp at h⟩
theorem isl_skip {ps : List (Nat × Bool)} {r : Int} {k i : Nat} {L : List Nat} (h : IslInv ps r k i L) (p : Nat × Bool) (hp : ps[i]? = some p) (hn : ¬ (p.2 = true ∧ (p.1 : Int) = r)) : IslInv ps r k (i + 1) L := by
  obtain ⟨h1, h2, h3, h4⟩ := h
  rw [drop_at hp, cntI_cons, if_neg hn] at h2
  exact ⟨h1, h2, h3.skip, h4⟩
theorem isl_take {ps : List (Nat × Bool)} {r : Int} {k i : Nat} {L : List Nat} (h : IslInv ps r k i L) (hk : L.length ≠ k) (p : Nat × Bool) (hp : ps[i]? = some p) (hn : p.2 = true) (hr : (p.1 : Int) = r) : IslInv ps r k (i + 1) (L ++ [i]) := by
  obtain ⟨h1, h2, h3, h4⟩ := h
  rw [drop_at hp, cntI_cons, if_pos ⟨hn, hr⟩] at h2
  refine ⟨by simp; omega, by simp; omega, h3.take p hp hn, fun id hid => ?_⟩
  rcases List.mem_append.1 hid with h' | h'
  · exact h4 id h'
  · simp at h'; subst h'; exact ⟨p, hp, hr⟩
theorem isl_end {ps : List (Nat × Bool)} {r : Int} {k : Nat} {L : List Nat} (h : IslInv ps r k ps.length L) : L.length = k := by
  obtain ⟨h1, h2, _⟩ := h
  rw [List.drop_length, cntI_nil] at h2
  omega

def SprInv (ps : List (Nat × Bool)) (xs : List Nat) (k i : Nat) (L : List Nat) : Prop :=
  L.length + sumN xs = k ∧ (∀ c : Nat, xs[c]?.getD 0 ≤ cntI (ps.drop i) c) ∧ Chosen ps i L

/-- What the islands hold free. -/
def FrOf (ps : List (Nat × Bool)) (fr : List Nat) : Prop := (∀ c : Nat, fr[c]?.getD 0 = cntI ps c) ∧ (∀ p ∈ ps, p.1 < fr.length) ∧ sumN fr = ps.countP (·.2)

theorem spr_start {ps : List (Nat × Bool)} {fr xs : List Nat} {k : Nat} (h : FrOf ps fr) (hg : Given fr xs k) : SprInv ps xs k 0 [] :=
  ⟨by simp [hg.2.2], fun c => by rw [List.drop_zero, ← h.1 c]; exact hg.2.1 c, .nil _ _⟩
theorem spr_skip {ps : List (Nat × Bool)} {xs : List Nat} {k i : Nat} {L : List Nat} (h : SprInv ps xs k i L) (p : Nat × Bool) (hp : ps[i]? = some p) (hn : p.2 = false ∨ xs[p.1]?.getD 0 = 0) : SprInv ps xs k (i + 1) L := by
  obtain ⟨h1, h2, h3⟩ := h
  refine ⟨h1, fun c => ?_, h3.skip⟩
  have := h2 c
  rw [drop_at hp, cntI_cons] at this
  by_cases hc : p.2 = true ∧ (p.1 : Int) = (c : Int)
  · rcases hn with hn | hn
    · rw [hn] at hc; simp at hc
    · have e : p.1 = c := by omega
      rw [e] at hn; rw [hn]; exact Nat.zero_le _
  · rw [if_neg hc] at this; exact this
theorem spr_take {ps : List (Nat × Bool)} {xs : List Nat} {k i : Nat} {L : List Nat} (h : SprInv ps xs k i L) (p : Nat × Bool) (hp : ps[i]? = some p) (hn : p.2 = true) (x : Nat) (hx : xs[p.1]?.getD 0 = x + 1) : SprInv ps (xs.set p.1 x) k (i + 1) (L ++ [i]) := by
  obtain ⟨h1, h2, h3⟩ := h
  have hl : p.1 < xs.length := by
    rcases Nat.lt_or_ge p.1 xs.length with h | h
    · exact h
    · rw [List.getElem?_eq_none h] at hx; simp at hx
  refine ⟨?_, fun c => ?_, h3.take p hp hn⟩
  · have := sumN_set xs p.1 x hl
    simp
    omega
  · have hc := h2 c
    rw [drop_at hp, cntI_cons] at hc
    by_cases e : c = p.1
    · subst e
      rw [List.getElem?_set_self hl]
      rw [if_pos ⟨hn, rfl⟩] at hc
      simp only [Option.getD_some]
      omega
    · rw [List.getElem?_set_ne (Ne.symm e)]
      rw [if_neg (fun h => e (by omega))] at hc
      exact hc
theorem sumN_zero : ∀ (xs : List Nat), (∀ c : Nat, xs[c]?.getD 0 = 0) → sumN xs = 0
  | [], _ => rfl
  | x :: r, h => by
    have h0 := h 0
    have := sumN_zero r (fun c => by have := h (c + 1); simpa using this)
    simp only [List.getElem?_cons_zero, Option.getD_some] at h0
    simp only [sumN]
    omega
theorem spr_end {ps : List (Nat × Bool)} {xs : List Nat} {k : Nat} {L : List Nat} (h : SprInv ps xs k ps.length L) : L.length = k := by
  obtain ⟨h1, h2, _⟩ := h
  rw [sumN_zero xs (fun c => by have := h2 c; rw [List.drop_length, cntI_nil] at this; omega)] at h1
  exact h1

/-- What is granted: k GPUs, healthy, increasing, and (one) of one island. -/
def GrantedIds (ps : List (Nat × Bool)) (k : Nat) (one : Bool) (L : List Nat) : Prop :=
  L.length = k ∧ Chosen ps ps.length L ∧ (one = true → ∃ r : Int, ∀ id ∈ L, ∃ p, ps[id]? = some p ∧ (p.1 : Int) = r)
theorem Chosen.wide {ps : List (Nat × Bool)} {i : Nat} {L : List Nat} (h : Chosen ps i L) : Chosen ps ps.length L :=
  ⟨h.1, fun id hid => ⟨by obtain ⟨p, hp, _⟩ := (h.2 id hid).2; exact (List.getElem?_eq_some_iff.1 hp).1, (h.2 id hid).2⟩⟩
theorem isl_granted {ps : List (Nat × Bool)} {r : Int} {k i : Nat} {L : List Nat} (h : IslInv ps r k i L) (hk : L.length = k) (one : Bool) : GrantedIds ps k one L :=
  ⟨hk, h.2.2.1.wide, fun _ => ⟨r, h.2.2.2⟩⟩
theorem spr_granted {ps : List (Nat × Bool)} {xs : List Nat} {k i : Nat} {L : List Nat} (h : SprInv ps xs k i L) (hk : L.length = k) : GrantedIds ps k false L :=
  ⟨hk, h.2.2.wide, fun h => by cases h⟩

/-! ### The books of a node on which nothing is granted -/
theorem HealthAt.below {w w' : World} {b id : Nat} {hv : Bool} (h : HealthAt w b id hv) (hb : Below w.heap.size w w') : HealthAt w' b id hv := by
  obtain ⟨a, l, c, h5, h⟩ := h
  refine ⟨a, l, c, (hb.cell (cell_lt h5)).trans h5, ?_⟩
  rcases h with h | ⟨h1, d, off, h2, h3⟩
  · exact .inl h
  · exact .inr ⟨h1, d, off, h2, (hb.cell (cell_lt h3)).trans h3⟩
structure BooksAt (w : World) (b : Nat) (cpu mem : Int) (ps : List (Nat × Bool)) (fr : List Nat) : Prop where
  c1 : w.cell? ⟨b, 1, none⟩ = some (.int .i64 cpu)
  c2 : w.cell? ⟨b, 2, none⟩ = some (.int .i64 mem)
  c4 : w.cell? ⟨b, 4, none⟩ = some (.string ⟨#[]⟩)
  c6 : w.cell? ⟨b, 6, none⟩ = some (.int .i64 0)
  c7 : w.cell? ⟨b, 7, none⟩ = some (.int .i64 0)
  c8 : ∃ a cap, w.cell? ⟨b, 8, none⟩ = some (.slice a ps.length cap) ∧ RowAt w a (List.replicate ps.length (.int .i64 0))
  c11 : w.cell? ⟨b, 11, none⟩ = some (.int .i64 (sumN fr : Nat))
  c12 : ∃ a cap, w.cell? ⟨b, 12, none⟩ = some (.slice a ps.length cap) ∧ RowAt w a (ps.map (fun p => natV p.1))
  free : FreeAt w b fr
  health : ∀ i p, ps[i]? = some p → HealthAt w b i p.2
  c14 : w.cell? ⟨b, 14, none⟩ = some (.int .u64 0)
  c16 : ∃ x : Int, w.cell? ⟨b, 16, none⟩ = some (.int .i64 x)
  c17 : w.cell? ⟨b, 17, none⟩ = some (.int .i64 (sumN fr : Nat))
  c18 : w.cell? ⟨b, 18, none⟩ = some (.int .i64 cpu)
  c19 : w.cell? ⟨b, 19, none⟩ = some (.int .i64 mem)
  c21 : w.cell? ⟨b, 21, none⟩ = some (.int .i64 0)
  c23 : w.cell? ⟨b, 23, none⟩ = some (.int .i64 0)
theorem BooksAt.below {w w' : World} {b : Nat} {cpu mem : Int} {ps : List (Nat × Bool)} {fr : List Nat} (h : BooksAt w b cpu mem ps fr) (hb : Below w.heap.size w w') : BooksAt w' b cpu mem ps fr where
  c1 := (hb.cell (cell_lt h.c1)).trans h.c1
  c2 := (hb.cell (cell_lt h.c2)).trans h.c2
  c4 := (hb.cell (cell_lt h.c4)).trans h.c4
  c6 := (hb.cell (cell_lt h.c6)).trans h.c6
  c7 := (hb.cell (cell_lt h.c7)).trans h.c7
  c8 := by obtain ⟨a, cap, h1, h2⟩ := h.c8; exact ⟨a, cap, (hb.cell (cell_lt h1)).trans h1, h2.below hb⟩
  c11 := (hb.cell (cell_lt h.c11)).trans h.c11
  c12 := by obtain ⟨a, cap, h1, h2⟩ := h.c12; exact ⟨a, cap, (hb.cell (cell_lt h1)).trans h1, h2.below hb⟩
  free := h.free.below hb
  health := fun i p hp => (h.health i p hp).below hb
  c14 := (hb.cell (cell_lt h.c14)).trans h.c14
  c16 := by obtain ⟨x, h⟩ := h.c16; exact ⟨x, (hb.cell (cell_lt h)).trans h⟩
  c17 := (hb.cell (cell_lt h.c17)).trans h.c17
  c18 := (hb.cell (cell_lt h.c18)).trans h.c18
  c19 := (hb.cell (cell_lt h.c19)).trans h.c19
  c21 := (hb.cell (cell_lt h.c21)).trans h.c21
  c23 := (hb.cell (cell_lt h.c23)).trans h.c23

/-- 'make([]T, l, c)'. -/
theorem wpList_make_any {P : Program} (w : World) {ops : Array Oper} {rest : List Oper} {o : Oper} {a : Act} {Q : Exit → Act → World → Prop}
    (hg : o.guard = none) (l c : Operand) (t : TypeId) (hop : o.op = Op.makeSlice t l c)
    (base : Nat) (e : TypeId) (i : TypeInfo) (z : Value) (size : Nat) (h1 : P.underlying t = some (.slice e)) (h2 : P.info? e = some i) (h3 : i.zero = some z) (h4 : i.size = size)
    (kl kc : IntKind) (n m : Nat) (hl : a.eval l = .int kl (n : Int)) (hc : a.eval c = .int kc (m : Int)) (hnm : n ≤ m) (b2 : i.bytes * m ≤ 281474976710656) (b3 : m ≤ maxLen) (b4 : base ≤ w.heap.size)
    (hK : ∀ w', w'.ownsRow base e size (.slice (some ⟨w.heap.size, 0, none⟩) n m) n ((madeCells z.cells (m * size)).toList.take (n * size)) → w.grownBy w' none → wpList P ops Q rest (a.put o.dst (.slice (some ⟨w.heap.size, 0, none⟩) n m)) w') :
    wpList P ops Q (o :: rest) a w := by
  refine wpList_plain hg fun K hK' => ?_
  have h63' : (m : Int) ≤ 9223372036854775807 := by have h := b3; simp [maxLen] at h; omega
  have hb' : (i.bytes : Int) * (m : Int) ≤ 281474976710656 := by
    have h : ((i.bytes * m : Nat) : Int) ≤ 281474976710656 := by omega
    rwa [Int.natCast_mul] at h
  have hrun := run_make (P := P) w t e i z h1 h2 h3 kl kc n m (by omega) (by omega) hb' h63'
  simp only [Int.toNat_natCast] at hrun
  unfold Oper.wp
  simp [execOp, hop, hl, hc, hrun, Result.andThen]
  refine hK' _ _ (hK _ ⟨?_, .inr ⟨w.heap.size, m, _, rfl, b4, heap_alloc_new w _, hnm, b3, ?_, ?_⟩⟩ (World.grownBy_alloc w _ none))
  · rw [List.length_take, Array.length_toList, size_madeCells]
    exact Nat.min_eq_left (Nat.mul_le_mul_right _ hnm)
  · rw [size_madeCells, h4]
  · rw [h4]

/-- What pick answers where it grants. -/
def PickPost (w : World) (ps : List (Nat × Bool)) (k : Nat) (one : Bool) (e : Ending) (w' : World) : Prop :=
  (∃ (g cap : Nat) (L : List Nat), e = .returned (.tuple #[.slice (some ⟨g, 0, none⟩) k cap, .bool true]) ∧ w'.ownsRow w.heap.size 3 1 (.slice (some ⟨g, 0, none⟩) k cap) k (L.map natV) ∧ GrantedIds ps k one L) ∧ Below w.heap.size w w'
theorem pickPost_mk {w w' : World} {ps : List (Nat × Bool)} {k : Nat} {one : Bool} {g cap l : Nat} {L : List Nat} {B : Nat} (hB : w.heap.size ≤ B) (h1 : w'.ownsRow B 3 1 (.slice (some ⟨g, 0, none⟩) l cap) l (L.map natV)) (hl : l = k) (h2 : GrantedIds ps k one L) (h3 : Below w.heap.size w w') : PickPost w ps k one (.returned (.tuple #[.slice (some ⟨g, 0, none⟩) l cap, .bool true])) w' := by
  subst hl
  refine ⟨⟨g, cap, L, rfl, ⟨h1.1, ?_⟩, h2⟩, h3⟩
  rcases h1.2 with h | ⟨g', c', cur, e, hb, r⟩
  · exact .inl h
  · exact .inr ⟨g', c', cur, e, Nat.le_trans hB hb, r⟩

end Go.Proofs.Qxb6612460aGreatFmt
