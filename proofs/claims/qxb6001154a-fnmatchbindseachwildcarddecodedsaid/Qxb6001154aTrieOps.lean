import Derived.Test.Qxb6001154aTrie
namespace Go.Proofs.Qxb6001154a
open Go.RowKit

def setOwn (own : Nat → Nat × Nat) (g : Nat) (x : Nat × Nat) : Nat → Nat × Nat := fun y => if y = g then x else own y
theorem setOwn_same (own : Nat → Nat × Nat) (g : Nat) (x : Nat × Nat) : setOwn own g x g = x := if_pos rfl
theorem setOwn_ne (own : Nat → Nat × Nat) {g y : Nat} (x : Nat × Nat) (h : y ≠ g) : setOwn own g x y = own y := if_neg h
theorem setOwn_old (own : Nat → Nat × Nat) (w : World) (x : Nat × Nat) : ∀ g, g < w.heap.size → setOwn own w.heap.size x g = own g := fun _ h => setOwn_ne own x (by omega)

theorem heap_set_same {w : World} {n i : Nat} {c : Array Value} {t : TypeId} (v : Value) (h : w.heap[n]? = some (.cells c t (0, 0))) : (w.setCell ⟨n, i, none⟩ v).heap[n]? = some (.cells (c.setIfInBounds i v) t (0, 0)) := by
  simp [World.setCell, Array.getElem?_modify, h]

theorem Gr.dom_set {G : Gr} {n : Nat} {r : NodeR} : ∀ x r', G x = some r' → ∃ r'', G.set n r x = some r'' := by
  intro x r' h
  by_cases hx : x = n
  · subst hx; exact ⟨r, Gr.set_same _ _ _⟩
  · exact ⟨r', by rw [Gr.set_ne _ _ hx]; exact h⟩

theorem Inv.none_new {w : World} {base : Nat} {G : Gr} {own : Nat → Nat × Nat} (h : Inv w base G own) {N : Nat} (hN : w.heap.size ≤ N) : G N = none := by
  cases hG : G N with
  | none => rfl
  | some r => have := heap_lt (h N r hG).cells; omega

/-- A node's cells, read. -/
theorem NodeOk.cell {w : World} {base : Nat} {G : Gr} {own : Nat → Nat × Nat} {b : Nat} {r : NodeR} (h : NodeOk w base G own b r) :
    w.cell? ⟨b, 0, none⟩ = some (mapV r) ∧ w.cell? ⟨b, 1, none⟩ = some (ptrV r.wild) ∧ w.cell? ⟨b, 2, none⟩ = some r.endV ∧ w.cell? ⟨b, 3, none⟩ = some r.dblV := by
  have hc := h.cells
  refine ⟨?_, ?_, ?_, ?_⟩ <;> simp [World.cell?, hc, nodeCells]
theorem NodeOk.frozen {w : World} {base : Nat} {G : Gr} {own : Nat → Nat × Nat} {b : Nat} {r : NodeR} (h : NodeOk w base G own b r) (i : Nat) : w.frozen? ⟨b, i, none⟩ = false := by
  have hc := h.cells
  simp [World.frozen?, hc]

theorem nodeOk_empty {w : World} {base : Nat} {G : Gr} {own : Nat → Nat × Nat} {N : Nat} (hb : base ≤ N) (hc : w.heap[N]? = some (.cells (nodeCells emptyNode) 73 (0, 0))) (ho : own N = (N, 0)) : NodeOk w base G own N emptyNode where
  low := hb
  cells := hc
  mine := ho
  map := fun p hp => by cases hp
  wild := fun c hc => by cases hc
  endR := World.ownsRow_nil _ _ _ _
  endO := fun g hg => by cases hg
  dblR := World.ownsRow_nil _ _ _ _
  dblO := fun g hg => by cases hg

/-- 'n.literals = make(map[string]*node)'. -/
theorem Inv.mkmap {w : World} {base : Nat} {G : Gr} {own : Nat → Nat × Nat} {n : Nat} {r : NodeR} (h : Inv w base G own) (hn : G n = some r) (hb : base ≤ w.heap.size) :
    Inv ((w.setCell ⟨n, 0, none⟩ (.map (some w.heap.size))).alloc (.map #[] 0)) base (G.set n { r with lits := some (w.heap.size, []) }) (setOwn own w.heap.size (n, 1)) := by
  have hk := h n r hn
  have hlt := heap_lt hk.cells
  have hsz : (w.setCell ⟨n, 0, none⟩ (.map (some w.heap.size))).heap.size = w.heap.size := by simp [World.setCell]
  have hne : ∀ g, g < w.heap.size → g ≠ n → ((w.setCell ⟨n, 0, none⟩ (.map (some w.heap.size))).alloc (.map #[] 0)).heap[g]? = w.heap[g]? := fun g hg hgn => by
    rw [Below.heap_alloc _ _ _ (by rw [hsz]; exact hg), Below.heap_setCell _ _ _ _ hgn]
  have hat : ((w.setCell ⟨n, 0, none⟩ (.map (some w.heap.size))).alloc (.map #[] 0)).heap[n]? = some (.cells (nodeCells { r with lits := some (w.heap.size, []) }) 73 (0, 0)) := by
    rw [Below.heap_alloc _ _ _ (by rw [hsz]; exact hlt), heap_set_same _ hk.cells]; rfl
  have hown : ∀ g, (own g).1 ≠ n → g ≠ n := fun g hg e => hg (by rw [e, hk.mine])
  refine h.turn (n := n) (fun g hg hgo => hne g hg (hown g hgo)) (setOwn_old own w _) Gr.dom_set (fun x r' hx => ?_)
  by_cases hxn : x = n
  · subst hxn
    rw [Gr.set_same] at hx
    cases hx
    refine .inr ⟨hk.low, hat, (setOwn_old own w _ _ hlt).trans hk.mine, fun p hp => ?_, fun c hc => Gr.dom_set _ _ (hk.wild c hc).choose_spec, ?_, ?_, ?_, ?_⟩
    · cases hp
      refine ⟨⟨#[], 0, ?_, rfl⟩, setOwn_same _ _ _, hb, by intro q hq; cases hq⟩
      have := heap_alloc_new (w.setCell ⟨x, 0, none⟩ (.map (some w.heap.size))) (.map #[] 0)
      rw [hsz] at this
      exact this
    · exact ownsRow_same hk.endR (fun g hg => hne g (ownsRow_lt hk.endR g hg) (fun e => by have := hk.endO g hg; rw [e, hk.mine] at this; simp at this))
    · exact fun g hg => (setOwn_old own w _ g (ownsRow_lt hk.endR g hg)).trans (hk.endO g hg)
    · exact ownsRow_same hk.dblR (fun g hg => hne g (ownsRow_lt hk.dblR g hg) (fun e => by have := hk.dblO g hg; rw [e, hk.mine] at this; simp at this))
    · exact fun g hg => (setOwn_old own w _ g (ownsRow_lt hk.dblR g hg)).trans (hk.dblO g hg)
  · rw [Gr.set_ne _ _ hxn] at hx
    exact .inl ⟨hx, hxn⟩

/-- 'n.literals[text] = new(node)'. -/
theorem Inv.newlit {w w' : World} {base : Nat} {G : Gr} {own : Nat → Nat × Nat} {n m : Nat} {es : List (ByteArray × Nat)} {r : NodeR} {key : ByteArray} (h : Inv w base G own) (hn : G n = some r) (hl : r.lits = some (m, es)) (hb : base ≤ w.heap.size)
    (hm : MapIs w' m (entV es ++ [(key, .pointer (some ⟨w.heap.size, 0, none⟩))])) (hg : (w.alloc (.cells (nodeCells emptyNode) 73)).grownBy w' (some m)) :
    Inv w' base ((G.set w.heap.size emptyNode).set n { r with lits := some (m, es ++ [(key, w.heap.size)]) }) (setOwn own w.heap.size (w.heap.size, 0)) := by
  have hk := h n r hn
  have hlt := heap_lt hk.cells
  obtain ⟨hm0, hmo, hmb, hmk⟩ := hk.map _ hl
  have hmlt := hm0.lt
  dsimp only at hm0 hmo hmb hmk hmlt
  have hne : ∀ g, g < w.heap.size → g ≠ m → w'.heap[g]? = w.heap[g]? := fun g hg' hgm => by
    rw [hg.block g (by simp; omega) (fun e => hgm (by cases e; rfl)), Below.heap_alloc _ _ _ hg']
  have hnew : w'.heap[w.heap.size]? = some (.cells (nodeCells emptyNode) 73 (0, 0)) := by
    rw [hg.block w.heap.size (by simp) (fun e => by cases e; omega), heap_alloc_new]
  have hnm : n ≠ m := fun e => by have h1 := hk.mine; rw [e, hmo] at h1; simp at h1
  have hNn : n ≠ w.heap.size := by omega
  have hdom : ∀ x r', G x = some r' → ∃ r'', ((G.set w.heap.size emptyNode).set n { r with lits := some (m, es ++ [(key, w.heap.size)]) }) x = some r'' := fun x r' hx => by
    obtain ⟨r2, h2⟩ := Gr.dom_set (n := w.heap.size) (r := emptyNode) x r' hx
    exact Gr.dom_set _ _ h2
  refine h.turn (n := n) (fun g hg' hgo => hne g hg' (fun e => hgo (by rw [e, hmo]))) (setOwn_old own w _) hdom (fun x r' hx => ?_)
  by_cases hxn : x = n
  · subst hxn
    rw [Gr.set_same] at hx
    cases hx
    refine .inr ⟨hk.low, ?_, (setOwn_old own w _ _ hlt).trans hk.mine, fun p hp => ?_, fun c hc => hdom _ _ (hk.wild c hc).choose_spec, ?_, ?_, ?_, ?_⟩
    · rw [hne x hlt hnm, hk.cells]
      simp [nodeCells, mapV, hl]
    · cases hp
      refine ⟨by simpa [entV] using hm, (setOwn_old own w _ _ hmlt).trans hmo, hmb, fun q hq => ?_⟩
      rcases List.mem_append.1 hq with hq | hq
      · obtain ⟨r2, h2⟩ := hmk q hq
        exact hdom _ _ h2
      · simp only [List.mem_singleton] at hq
        subst hq
        exact ⟨emptyNode, by rw [Gr.set_ne _ _ (Ne.symm hNn), Gr.set_same]⟩
    · exact ownsRow_same hk.endR (fun g hg' => hne g (ownsRow_lt hk.endR g hg') (fun e => by have := hk.endO g hg'; rw [e, hmo] at this; simp at this))
    · exact fun g hg' => (setOwn_old own w _ g (ownsRow_lt hk.endR g hg')).trans (hk.endO g hg')
    · exact ownsRow_same hk.dblR (fun g hg' => hne g (ownsRow_lt hk.dblR g hg') (fun e => by have := hk.dblO g hg'; rw [e, hmo] at this; simp at this))
    · exact fun g hg' => (setOwn_old own w _ g (ownsRow_lt hk.dblR g hg')).trans (hk.dblO g hg')
  · rw [Gr.set_ne _ _ hxn] at hx
    by_cases hxN : x = w.heap.size
    · subst hxN
      rw [Gr.set_same] at hx
      cases hx
      exact .inr (nodeOk_empty hb hnew (setOwn_same _ _ _))
    · rw [Gr.set_ne _ _ hxN] at hx
      exact .inl ⟨hx, hxn⟩

/-- 'n.wildcard = new(node)'. -/
theorem Inv.newwild {w : World} {base : Nat} {G : Gr} {own : Nat → Nat × Nat} {n : Nat} {r : NodeR} (h : Inv w base G own) (hn : G n = some r) (hb : base ≤ w.heap.size) :
    Inv ((w.setCell ⟨n, 1, none⟩ (.pointer (some ⟨w.heap.size, 0, none⟩))).alloc (.cells (nodeCells emptyNode) 73)) base ((G.set w.heap.size emptyNode).set n { r with wild := some w.heap.size }) (setOwn own w.heap.size (w.heap.size, 0)) := by
  have hk := h n r hn
  have hlt := heap_lt hk.cells
  have hsz : (w.setCell ⟨n, 1, none⟩ (.pointer (some ⟨w.heap.size, 0, none⟩))).heap.size = w.heap.size := by simp [World.setCell]
  have hne : ∀ g, g < w.heap.size → g ≠ n → ((w.setCell ⟨n, 1, none⟩ (.pointer (some ⟨w.heap.size, 0, none⟩))).alloc (.cells (nodeCells emptyNode) 73)).heap[g]? = w.heap[g]? := fun g hg hgn => by
    rw [Below.heap_alloc _ _ _ (by rw [hsz]; exact hg), Below.heap_setCell _ _ _ _ hgn]
  have hat : ((w.setCell ⟨n, 1, none⟩ (.pointer (some ⟨w.heap.size, 0, none⟩))).alloc (.cells (nodeCells emptyNode) 73)).heap[n]? = some (.cells (nodeCells { r with wild := some w.heap.size }) 73 (0, 0)) := by
    rw [Below.heap_alloc _ _ _ (by rw [hsz]; exact hlt), heap_set_same _ hk.cells]; rfl
  have hnew : ((w.setCell ⟨n, 1, none⟩ (.pointer (some ⟨w.heap.size, 0, none⟩))).alloc (.cells (nodeCells emptyNode) 73)).heap[w.heap.size]? = some (.cells (nodeCells emptyNode) 73 (0, 0)) := by
    have := heap_alloc_new (w.setCell ⟨n, 1, none⟩ (.pointer (some ⟨w.heap.size, 0, none⟩))) (.cells (nodeCells emptyNode) 73)
    rw [hsz] at this
    exact this
  have hown : ∀ g, (own g).1 ≠ n → g ≠ n := fun g hg e => hg (by rw [e, hk.mine])
  have hNn : n ≠ w.heap.size := by omega
  have hdom : ∀ x r', G x = some r' → ∃ r'', ((G.set w.heap.size emptyNode).set n { r with wild := some w.heap.size }) x = some r'' := fun x r' hx => by
    obtain ⟨r2, h2⟩ := Gr.dom_set (n := w.heap.size) (r := emptyNode) x r' hx
    exact Gr.dom_set _ _ h2
  refine h.turn (n := n) (fun g hg hgo => hne g hg (hown g hgo)) (setOwn_old own w _) hdom (fun x r' hx => ?_)
  by_cases hxn : x = n
  · subst hxn
    rw [Gr.set_same] at hx
    cases hx
    refine .inr ⟨hk.low, hat, (setOwn_old own w _ _ hlt).trans hk.mine, fun p hp => ?_, fun c hc => ?_, ?_, ?_, ?_, ?_⟩
    · obtain ⟨h1, h2, h3, h4⟩ := hk.map p hp
      exact ⟨h1.kept (hne _ h1.lt (fun e => by rw [e, hk.mine] at h2; simp at h2)), (setOwn_old own w _ _ h1.lt).trans h2, h3, fun q hq => by obtain ⟨r2, h2⟩ := h4 q hq; exact hdom _ _ h2⟩
    · cases hc
      exact ⟨emptyNode, by rw [Gr.set_ne _ _ (Ne.symm hNn), Gr.set_same]⟩
    · exact ownsRow_same hk.endR (fun g hg => hne g (ownsRow_lt hk.endR g hg) (fun e => by have := hk.endO g hg; rw [e, hk.mine] at this; simp at this))
    · exact fun g hg => (setOwn_old own w _ g (ownsRow_lt hk.endR g hg)).trans (hk.endO g hg)
    · exact ownsRow_same hk.dblR (fun g hg => hne g (ownsRow_lt hk.dblR g hg) (fun e => by have := hk.dblO g hg; rw [e, hk.mine] at this; simp at this))
    · exact fun g hg => (setOwn_old own w _ g (ownsRow_lt hk.dblR g hg)).trans (hk.dblO g hg)
  · rw [Gr.set_ne _ _ hxn] at hx
    by_cases hxN : x = w.heap.size
    · subst hxN
      rw [Gr.set_same] at hx
      cases hx
      exact .inr (nodeOk_empty hb hnew (setOwn_same _ _ _))
    · rw [Gr.set_ne _ _ hxN] at hx
      exact .inl ⟨hx, hxn⟩

/-- 'n.ended = append(n.ended, position)'. -/
theorem Inv.append_ended {w w3 : World} {base : Nat} {G : Gr} {own : Nat → Nat × Nat} {n : Nat} {r : NodeR} {v' : Value} {x : Int} {o : Obj} (h : Inv w base G own) (hn : G n = some r)
    (hown : w3.ownsRow base 3 1 v' (r.endL.length + 1) (r.endL.map (Value.int .i64) ++ [.int .i64 x])) (hg : (w.alloc o).grownBy w3 r.endV.ownBlock) (hat : v'.ownBlock = r.endV.ownBlock ∨ v'.ownBlock = some (w.heap.size + 1)) :
    ∃ own', Inv (w3.setCell ⟨n, 2, none⟩ v') base (G.set n { r with endV := v', endL := r.endL ++ [x] }) own' := by
  have hk := h n r hn
  have hlt := heap_lt hk.cells
  have hne3 : ∀ g, g < w.heap.size → some g ≠ r.endV.ownBlock → w3.heap[g]? = w.heap[g]? := fun g hg' hgm => by
    rw [hg.block g (by simp; omega) hgm, Below.heap_alloc _ _ _ hg']
  have hnv : some n ≠ r.endV.ownBlock := fun e => by have h1 := hk.endO n e.symm; rw [hk.mine] at h1; simp at h1
  have hne : ∀ g, g < w.heap.size → g ≠ n → some g ≠ r.endV.ownBlock → (w3.setCell ⟨n, 2, none⟩ v').heap[g]? = w.heap[g]? := fun g hg' h1 h2 => by
    rw [Below.heap_setCell _ _ _ _ h1, hne3 g hg' h2]
  have hcell3 : w3.heap[n]? = some (.cells (nodeCells r) 73 (0, 0)) := (hne3 n hlt hnv).trans hk.cells
  have hat' : (w3.setCell ⟨n, 2, none⟩ v').heap[n]? = some (.cells (nodeCells { r with endV := v', endL := r.endL ++ [x] }) 73 (0, 0)) := by
    rw [heap_set_same _ hcell3]; rfl
  have hvn : v'.ownBlock ≠ some n := fun e => by
    rcases hat with h1 | h1
    · rw [h1] at e; exact hnv e.symm
    · rw [h1] at e; cases e; omega
  refine ⟨fun g => if some g = v'.ownBlock then (n, 2) else own g, ?_⟩
  have hold : ∀ g, g < w.heap.size → (if some g = v'.ownBlock then ((n, 2) : Nat × Nat) else own g) = own g := fun g hg' => by
    by_cases e : some g = v'.ownBlock
    · rw [if_pos e]
      rcases hat with h1 | h1
      · rw [h1] at e; exact (hk.endO g e.symm).symm
      · rw [h1] at e; cases e; omega
    · rw [if_neg e]
  refine h.turn (n := n) (fun g hg' hgo => hne g hg' (fun e => hgo (by rw [e, hk.mine])) (fun e => hgo (by rw [hk.endO g e.symm]))) hold Gr.dom_set (fun y r' hy => ?_)
  by_cases hyn : y = n
  · subst hyn
    rw [Gr.set_same] at hy
    cases hy
    refine .inr ⟨hk.low, hat', (hold y hlt).trans hk.mine, fun p hp => ?_, fun c hc => Gr.dom_set _ _ (hk.wild c hc).choose_spec, ?_, ?_, ?_, ?_⟩
    · obtain ⟨h1, h2, h3, h4⟩ := hk.map p hp
      exact ⟨h1.kept (hne _ h1.lt (fun e => by rw [e, hk.mine] at h2; simp at h2) (fun e => by have h5 := hk.endO _ e.symm; rw [h2] at h5; simp at h5)), (hold _ h1.lt).trans h2, h3, fun q hq => by obtain ⟨r2, h2⟩ := h4 q hq; exact Gr.dom_set _ _ h2⟩
    · have e1 : (r.endL ++ [x]).length = r.endL.length + 1 := by simp
      have e2 : (r.endL ++ [x]).map (Value.int .i64) = r.endL.map (Value.int .i64) ++ [.int .i64 x] := by simp
      show World.ownsRow _ base 3 1 v' (r.endL ++ [x]).length ((r.endL ++ [x]).map (Value.int .i64))
      rw [e1, e2]
      exact ownsRow_same hown (fun g hg' => Below.heap_setCell _ _ _ _ (fun e => hvn (by rw [hg', e])))
    · intro g hg'
      exact if_pos hg'.symm
    · exact ownsRow_same hk.dblR (fun g hg' => hne g (ownsRow_lt hk.dblR g hg') (fun e => by have h5 := hk.dblO g hg'; rw [e, hk.mine] at h5; simp at h5) (fun e => by have h5 := hk.endO g e.symm; rw [hk.dblO g hg'] at h5; simp at h5))
    · exact fun g hg' => (hold g (ownsRow_lt hk.dblR g hg')).trans (hk.dblO g hg')
  · rw [Gr.set_ne _ _ hyn] at hy
    exact .inl ⟨hy, hyn⟩

/-- 'n.double = append(n.double, position)'. -/
theorem Inv.append_double {w w3 : World} {base : Nat} {G : Gr} {own : Nat → Nat × Nat} {n : Nat} {r : NodeR} {v' : Value} {x : Int} {o : Obj} (h : Inv w base G own) (hn : G n = some r)
    (hown : w3.ownsRow base 3 1 v' (r.dblL.length + 1) (r.dblL.map (Value.int .i64) ++ [.int .i64 x])) (hg : (w.alloc o).grownBy w3 r.dblV.ownBlock) (hat : v'.ownBlock = r.dblV.ownBlock ∨ v'.ownBlock = some (w.heap.size + 1)) :
    ∃ own', Inv (w3.setCell ⟨n, 3, none⟩ v') base (G.set n { r with dblV := v', dblL := r.dblL ++ [x] }) own' := by
  have hk := h n r hn
  have hlt := heap_lt hk.cells
  have hne3 : ∀ g, g < w.heap.size → some g ≠ r.dblV.ownBlock → w3.heap[g]? = w.heap[g]? := fun g hg' hgm => by
    rw [hg.block g (by simp; omega) hgm, Below.heap_alloc _ _ _ hg']
  have hnv : some n ≠ r.dblV.ownBlock := fun e => by have h1 := hk.dblO n e.symm; rw [hk.mine] at h1; simp at h1
  have hne : ∀ g, g < w.heap.size → g ≠ n → some g ≠ r.dblV.ownBlock → (w3.setCell ⟨n, 3, none⟩ v').heap[g]? = w.heap[g]? := fun g hg' h1 h2 => by
    rw [Below.heap_setCell _ _ _ _ h1, hne3 g hg' h2]
  have hcell3 : w3.heap[n]? = some (.cells (nodeCells r) 73 (0, 0)) := (hne3 n hlt hnv).trans hk.cells
  have hat' : (w3.setCell ⟨n, 3, none⟩ v').heap[n]? = some (.cells (nodeCells { r with dblV := v', dblL := r.dblL ++ [x] }) 73 (0, 0)) := by
    rw [heap_set_same _ hcell3]; rfl
  have hvn : v'.ownBlock ≠ some n := fun e => by
    rcases hat with h1 | h1
    · rw [h1] at e; exact hnv e.symm
    · rw [h1] at e; cases e; omega
  refine ⟨fun g => if some g = v'.ownBlock then (n, 3) else own g, ?_⟩
  have hold : ∀ g, g < w.heap.size → (if some g = v'.ownBlock then ((n, 3) : Nat × Nat) else own g) = own g := fun g hg' => by
    by_cases e : some g = v'.ownBlock
    · rw [if_pos e]
      rcases hat with h1 | h1
      · rw [h1] at e; exact (hk.dblO g e.symm).symm
      · rw [h1] at e; cases e; omega
    · rw [if_neg e]
  refine h.turn (n := n) (fun g hg' hgo => hne g hg' (fun e => hgo (by rw [e, hk.mine])) (fun e => hgo (by rw [hk.dblO g e.symm]))) hold Gr.dom_set (fun y r' hy => ?_)
  by_cases hyn : y = n
  · subst hyn
    rw [Gr.set_same] at hy
    cases hy
    refine .inr ⟨hk.low, hat', (hold y hlt).trans hk.mine, fun p hp => ?_, fun c hc => Gr.dom_set _ _ (hk.wild c hc).choose_spec, ?_, ?_, ?_, ?_⟩
    · obtain ⟨h1, h2, h3, h4⟩ := hk.map p hp
      exact ⟨h1.kept (hne _ h1.lt (fun e => by rw [e, hk.mine] at h2; simp at h2) (fun e => by have h5 := hk.dblO _ e.symm; rw [h2] at h5; simp at h5)), (hold _ h1.lt).trans h2, h3, fun q hq => by obtain ⟨r2, h2⟩ := h4 q hq; exact Gr.dom_set _ _ h2⟩
    · exact ownsRow_same hk.endR (fun g hg' => hne g (ownsRow_lt hk.endR g hg') (fun e => by have h5 := hk.endO g hg'; rw [e, hk.mine] at h5; simp at h5) (fun e => by have h5 := hk.dblO g e.symm; rw [hk.endO g hg'] at h5; simp at h5))
    · exact fun g hg' => (hold g (ownsRow_lt hk.endR g hg')).trans (hk.endO g hg')
    · have e1 : (r.dblL ++ [x]).length = r.dblL.length + 1 := by simp
      have e2 : (r.dblL ++ [x]).map (Value.int .i64) = r.dblL.map (Value.int .i64) ++ [.int .i64 x] := by simp
      show World.ownsRow _ base 3 1 v' (r.dblL ++ [x]).length ((r.dblL ++ [x]).map (Value.int .i64))
      rw [e1, e2]
      exact ownsRow_same hown (fun g hg' => Below.heap_setCell _ _ _ _ (fun e => hvn (by rw [hg', e])))
    · intro g hg'
      exact if_pos hg'.symm
  · rw [Gr.set_ne _ _ hyn] at hy
    exact .inl ⟨hy, hyn⟩

/-! ### What the changes mean for the graph -/

theorem lst_mkmap {G : Gr} {n m : Nat} {r : NodeR} (hn : G n = some r) : ∀ b d, lst (G.set n { r with lits := some (m, []) }) b d = lst G b d := by
  intro b d
  unfold lst
  by_cases h : b = n
  · subst h; rw [Gr.set_same, hn]
  · rw [Gr.set_ne _ _ h]

theorem ext_mkmap {G : Gr} {n m : Nat} {r : NodeR} (hn : G n = some r) (hl : r.lits = none) : Ext G (G.set n { r with lits := some (m, []) }) := by
  intro b r0 hb
  by_cases h : b = n
  · subst h
    rw [hn] at hb; cases hb
    exact ⟨_, Gr.set_same _ _ _, fun key c hc => by simp [kids, hl] at hc, fun c hc => hc⟩
  · exact ⟨r0, by rw [Gr.set_ne _ _ h]; exact hb, fun _ _ h => h, fun _ h => h⟩

theorem lst_new {G : Gr} {n N : Nat} {r r' : NodeR} (hn : G n = some r) (hN : G N = none) (hNn : n ≠ N) (h1 : r'.endL = r.endL) (h2 : r'.dblL = r.dblL) : ∀ b d, lst ((G.set N emptyNode).set n r') b d = lst G b d := by
  intro b d
  unfold lst
  by_cases h : b = n
  · subst h; rw [Gr.set_same, hn]; dsimp only; rw [h1, h2]
  · rw [Gr.set_ne _ _ h]
    by_cases h' : b = N
    · subst h'; rw [Gr.set_same, hN]; cases d <;> rfl
    · rw [Gr.set_ne _ _ h']

theorem ext_newlit {G : Gr} {n N m : Nat} {es : List (ByteArray × Nat)} {r : NodeR} {key : ByteArray} (hn : G n = some r) (hl : r.lits = some (m, es)) (hN : G N = none) : Ext G ((G.set N emptyNode).set n { r with lits := some (m, es ++ [(key, N)]) }) := by
  intro b r0 hb
  by_cases h : b = n
  · subst h
    rw [hn] at hb; cases hb
    refine ⟨_, Gr.set_same _ _ _, fun k c hc => ?_, fun c hc => hc⟩
    simp only [kids, hl] at hc
    simp only [kids, look_append, hc]
    rfl
  · refine ⟨r0, ?_, fun _ _ h => h, fun _ h => h⟩
    rw [Gr.set_ne _ _ h, Gr.set_ne _ _ (fun e => by rw [e, hN] at hb; cases hb)]
    exact hb

theorem step_newlit {G : Gr} {n N m : Nat} {es : List (ByteArray × Nat)} {r : NodeR} {s : Nat × ByteArray} (hs : s.1 = 0) (hk : look es (decB s.2) = none) : stepTo ((G.set N emptyNode).set n { r with lits := some (m, es ++ [(decB s.2, N)]) }) n s = some N := by
  unfold stepTo
  rw [Gr.set_same]
  dsimp only
  rw [if_pos hs]
  simp only [kids, look_append, hk]
  simp [look]

theorem ext_newwild {G : Gr} {n N : Nat} {r : NodeR} (hn : G n = some r) (hl : r.wild = none) (hN : G N = none) : Ext G ((G.set N emptyNode).set n { r with wild := some N }) := by
  intro b r0 hb
  by_cases h : b = n
  · subst h
    rw [hn] at hb; cases hb
    exact ⟨_, Gr.set_same _ _ _, fun k c hc => hc, fun c hc => by rw [hl] at hc; cases hc⟩
  · refine ⟨r0, ?_, fun _ _ h => h, fun _ h => h⟩
    rw [Gr.set_ne _ _ h, Gr.set_ne _ _ (fun e => by rw [e, hN] at hb; cases hb)]
    exact hb

theorem step_newwild {G : Gr} {n N : Nat} {r : NodeR} {s : Nat × ByteArray} (hs : s.1 ≠ 0) : stepTo ((G.set N emptyNode).set n { r with wild := some N }) n s = some N := by
  unfold stepTo
  rw [Gr.set_same]
  dsimp only
  rw [if_neg hs]

theorem ext_lists {G : Gr} {n : Nat} {r r' : NodeR} (hn : G n = some r) (h1 : r'.lits = r.lits) (h2 : r'.wild = r.wild) : Ext G (G.set n r') := by
  intro b r0 hb
  by_cases h : b = n
  · subst h
    rw [hn] at hb; cases hb
    exact ⟨_, Gr.set_same _ _ _, fun k c hc => by simp only [kids, h1]; exact hc, fun c hc => by rw [h2]; exact hc⟩
  · exact ⟨r0, by rw [Gr.set_ne _ _ h]; exact hb, fun _ _ h => h, fun _ h => h⟩

theorem lst_ended {G : Gr} {n : Nat} {r : NodeR} {v : Value} {x : Int} (hn : G n = some r) : ∀ b d, lst (G.set n { r with endV := v, endL := r.endL ++ [x] }) b d = if b = n ∧ d = false then lst G b d ++ [x] else lst G b d := by
  intro b d
  unfold lst
  by_cases h : b = n
  · subst h; rw [Gr.set_same, hn]; cases d <;> simp
  · rw [Gr.set_ne _ _ h]; simp [h]

theorem lst_double {G : Gr} {n : Nat} {r : NodeR} {v : Value} {x : Int} (hn : G n = some r) : ∀ b d, lst (G.set n { r with dblV := v, dblL := r.dblL ++ [x] }) b d = if b = n ∧ d = true then lst G b d ++ [x] else lst G b d := by
  intro b d
  unfold lst
  by_cases h : b = n
  · subst h; rw [Gr.set_same, hn]; cases d <;> simp
  · rw [Gr.set_ne _ _ h]; simp [h]

end Go.Proofs.Qxb6001154a
