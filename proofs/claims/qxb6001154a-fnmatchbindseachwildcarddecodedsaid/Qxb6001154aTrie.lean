import Derived.Test.Qxb6001154aMaps
namespace Go.Proofs.Qxb6001154a
open Go.RowKit

/-! ### The trie as a graph: block number to node -/

structure NodeR where
  lits : Option (Nat × List (ByteArray × Nat))
  wild : Option Nat
  endV : Value
  endL : List Int
  dblV : Value
  dblL : List Int

def emptyNode : NodeR := ⟨none, none, .slice none 0 0, [], .slice none 0 0, []⟩

abbrev Gr := Nat → Option NodeR

def Gr.set (G : Gr) (b : Nat) (r : NodeR) : Gr := fun x => if x = b then some r else G x
theorem Gr.set_same (G : Gr) (b : Nat) (r : NodeR) : G.set b r b = some r := if_pos rfl
theorem Gr.set_ne (G : Gr) {b x : Nat} (r : NodeR) (h : x ≠ b) : G.set b r x = G x := if_neg h

def kids (r : NodeR) (key : ByteArray) : Option Nat := match r.lits with
  | none => none
  | some p => look p.2 key

def decB (t : ByteArray) : ByteArray := ⟨(Pl.dec t.data.toList).toArray⟩

/-- One step of a walk by a literal or a wildcard. -/
def stepTo (G : Gr) (b : Nat) (s : Nat × ByteArray) : Option Nat :=
  match G b with
  | none => none
  | some r => if s.1 = 0 then kids r (decB s.2) else r.wild

/-- Where the segments lead from b; the Bool: a double wildcard stopped the walk. -/
def path (G : Gr) : List (Nat × ByteArray) → Nat → Option (Nat × Bool)
  | [], b => some (b, false)
  | s :: r, b => if s.1 = 2 then some (b, true) else match stepTo G b s with
    | none => none
    | some c => path G r c

theorem path_cons_dbl (G : Gr) (s : Nat × ByteArray) (r : List (Nat × ByteArray)) (b : Nat) (h : s.1 = 2) : path G (s :: r) b = some (b, true) := by
  rw [path, if_pos h]
theorem path_cons_some (G : Gr) (s : Nat × ByteArray) (r : List (Nat × ByteArray)) (b c : Nat) (h : s.1 ≠ 2) (hc : stepTo G b s = some c) : path G (s :: r) b = path G r c := by
  rw [path, if_neg h, hc]

theorem path_append (G : Gr) (suf : List (Nat × ByteArray)) : ∀ (pre : List (Nat × ByteArray)) (b n : Nat), path G pre b = some (n, false) → path G (pre ++ suf) b = path G suf n
  | [], b, n, h => by rw [path] at h; cases h; rfl
  | s :: r, b, n, h => by
    rw [path] at h
    split at h
    · cases h
    · rename_i h2
      rw [List.cons_append, path, if_neg h2]
      cases hs : stepTo G b s with
      | none => rw [hs] at h; cases h
      | some c => rw [hs] at h; exact path_append G suf r c n h

/-- Links are kept. -/
def Ext (G G' : Gr) : Prop := ∀ b r, G b = some r → ∃ r', G' b = some r' ∧ (∀ key c, kids r key = some c → kids r' key = some c) ∧ (∀ c, r.wild = some c → r'.wild = some c)

theorem Ext.refl (G : Gr) : Ext G G := fun _ r h => ⟨r, h, fun _ _ h => h, fun _ h => h⟩
theorem Ext.trans {G G' G'' : Gr} (h : Ext G G') (k : Ext G' G'') : Ext G G'' := by
  intro b r hb
  obtain ⟨r', h1, h2, h3⟩ := h b r hb
  obtain ⟨r'', k1, k2, k3⟩ := k b r' h1
  exact ⟨r'', k1, fun key c hc => k2 key c (h2 key c hc), fun c hc => k3 c (h3 c hc)⟩

theorem Ext.step {G G' : Gr} (h : Ext G G') {b c : Nat} {s : Nat × ByteArray} (hs : stepTo G b s = some c) : stepTo G' b s = some c := by
  unfold stepTo at hs ⊢
  cases hb : G b with
  | none => rw [hb] at hs; cases hs
  | some r =>
    rw [hb] at hs
    obtain ⟨r', h1, h2, h3⟩ := h b r hb
    rw [h1]
    dsimp only at hs ⊢
    split at hs
    · rename_i h0; rw [if_pos h0]; exact h2 _ _ hs
    · rename_i h0; rw [if_neg h0]; exact h3 _ hs

theorem Ext.path {G G' : Gr} (h : Ext G G') : ∀ (l : List (Nat × ByteArray)) (b : Nat) (x : Nat × Bool), path G l b = some x → Qxb6001154a.path G' l b = some x
  | [], b, x, hp => hp
  | s :: r, b, x, hp => by
    rw [Qxb6001154a.path] at hp ⊢
    split at hp
    · rename_i h2; rw [if_pos h2]; exact hp
    · rename_i h2
      rw [if_neg h2]
      cases hs : stepTo G b s with
      | none => rw [hs] at hp; cases hp
      | some c => rw [hs] at hp; rw [h.step hs]; exact h.path r c x hp

/-- The positions that a node lists. -/
def lst (G : Gr) (b : Nat) (d : Bool) : List Int := match G b with
  | none => []
  | some r => if d then r.dblL else r.endL

/-! ### The trie in memory -/

def mapV (r : NodeR) : Value := match r.lits with
  | none => .map none
  | some p => .map (some p.1)
def ptrV : Option Nat → Value
  | none => .pointer none
  | some c => .pointer (some ⟨c, 0, none⟩)
def entV (es : List (ByteArray × Nat)) : List (ByteArray × Value) := es.map fun p => (p.1, Value.pointer (some ⟨p.2, 0, none⟩))

def nodeCells (r : NodeR) : Array Value := #[mapV r, ptrV r.wild, r.endV, r.dblV]

/-- Node b of the graph lies in memory; 'own' tells each of its blocks apart from every other node's. -/
structure NodeOk (w : World) (base : Nat) (G : Gr) (own : Nat → Nat × Nat) (b : Nat) (r : NodeR) : Prop where
  low : base ≤ b
  cells : w.heap[b]? = some (.cells (nodeCells r) 73 (0, 0))
  mine : own b = (b, 0)
  map : ∀ p, r.lits = some p → MapIs w p.1 (entV p.2) ∧ own p.1 = (b, 1) ∧ base ≤ p.1 ∧ ∀ q ∈ p.2, ∃ r', G q.2 = some r'
  wild : ∀ c, r.wild = some c → ∃ r', G c = some r'
  endR : w.ownsRow base 3 1 r.endV r.endL.length (r.endL.map (Value.int .i64))
  endO : ∀ g, r.endV.ownBlock = some g → own g = (b, 2)
  dblR : w.ownsRow base 3 1 r.dblV r.dblL.length (r.dblL.map (Value.int .i64))
  dblO : ∀ g, r.dblV.ownBlock = some g → own g = (b, 3)

def Inv (w : World) (base : Nat) (G : Gr) (own : Nat → Nat × Nat) : Prop := ∀ b r, G b = some r → NodeOk w base G own b r

theorem heap_lt {w : World} {b : Nat} {o : Obj} (h : w.heap[b]? = some o) : b < w.heap.size := by
  rcases Nat.lt_or_ge b w.heap.size with h1 | h1
  · exact h1
  · rw [Array.getElem?_eq_none h1] at h; cases h

theorem ownsRow_lt {w : World} {base : Nat} {e : TypeId} {size : Nat} {v : Value} {n : Nat} {xs : List Value} (h : w.ownsRow base e size v n xs) : ∀ g, v.ownBlock = some g → g < w.heap.size := by
  intro g hg
  rcases h.2 with ⟨rfl, _⟩ | ⟨g', cap, cur, rfl, hb, hh, _⟩
  · cases hg
  · simp only [Value.ownBlock, Option.some.injEq] at hg
    subst hg
    exact heap_lt hh

theorem ownsRow_same {w w' : World} {base : Nat} {e : TypeId} {size : Nat} {v : Value} {n : Nat} {xs : List Value} (h : w.ownsRow base e size v n xs) (hs : ∀ g, v.ownBlock = some g → w'.heap[g]? = w.heap[g]?) : w'.ownsRow base e size v n xs := by
  refine ⟨h.1, ?_⟩
  rcases h.2 with h' | ⟨g', cap, cur, rfl, hb, hh, r⟩
  · exact .inl h'
  · exact .inr ⟨g', cap, cur, rfl, hb, (hs g' rfl).trans hh, r⟩

/-- A node whose blocks stand as they stood. -/
theorem NodeOk.same {w w' : World} {base : Nat} {G G' : Gr} {own own' : Nat → Nat × Nat} {b : Nat} {r : NodeR} (h : NodeOk w base G own b r)
    (hs : ∀ g, g < w.heap.size → (own g).1 = b → w'.heap[g]? = w.heap[g]?) (ho : ∀ g, g < w.heap.size → own' g = own g) (hG : ∀ x r', G x = some r' → ∃ r'', G' x = some r'') : NodeOk w' base G' own' b r where
  low := h.low
  cells := (hs b (heap_lt h.cells) (by rw [h.mine])).trans h.cells
  mine := (ho b (heap_lt h.cells)).trans h.mine
  map := fun p hp => by
    obtain ⟨h1, h2, h3, h4⟩ := h.map p hp
    exact ⟨h1.kept (hs p.1 h1.lt (by rw [h2])), (ho _ h1.lt).trans h2, h3, fun q hq => by obtain ⟨r', hr'⟩ := h4 q hq; exact hG _ _ hr'⟩
  wild := fun c hc => by obtain ⟨r', hr'⟩ := h.wild c hc; exact hG _ _ hr'
  endR := ownsRow_same h.endR (fun g hg => hs g (ownsRow_lt h.endR g hg) (by rw [h.endO g hg]))
  endO := fun g hg => (ho g (ownsRow_lt h.endR g hg)).trans (h.endO g hg)
  dblR := ownsRow_same h.dblR (fun g hg => hs g (ownsRow_lt h.dblR g hg) (by rw [h.dblO g hg]))
  dblO := fun g hg => (ho g (ownsRow_lt h.dblR g hg)).trans (h.dblO g hg)

theorem Inv.below {w w' : World} {base : Nat} {G : Gr} {own : Nat → Nat × Nat} (h : Inv w base G own) (hb : Below w.heap.size w w') : Inv w' base G own :=
  fun b r hr => (h b r hr).same (fun g hg _ => hb.block g hg) (fun _ _ => rfl) (fun _ r' h => ⟨r', h⟩)

/-- Node n is turned, at most one node N is new, all other nodes' blocks stand. -/
theorem Inv.turn {w w' : World} {base : Nat} {G G' : Gr} {own own' : Nat → Nat × Nat} {n : Nat} (h : Inv w base G own)
    (hs : ∀ g, g < w.heap.size → (own g).1 ≠ n → w'.heap[g]? = w.heap[g]?) (ho : ∀ g, g < w.heap.size → own' g = own g)
    (hG : ∀ x r', G x = some r' → ∃ r'', G' x = some r'') (hold : ∀ x r', G' x = some r' → G x = some r' ∧ x ≠ n ∨ NodeOk w' base G' own' x r') : Inv w' base G' own' := by
  intro b r hr
  rcases hold b r hr with ⟨h1, h2⟩ | h1
  · exact (h b r h1).same (fun g hg hgb => hs g hg (by rw [hgb]; exact h2)) ho hG
  · exact h1

end Go.Proofs.Qxb6001154a
