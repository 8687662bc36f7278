import Derived.Test.Qxb6001154aTrieOps
namespace Go.Proofs.Qxb6001154a
open Go.RowKit

theorem Try.info3 : (Try.prog.info? 3).map (fun i => (i.zero, i.size, i.bytes)) = some (some (.int .i64 0), 1, 8) := by kernel_rfl

theorem seg_at : ∀ (l : List (Nat × ByteArray)) (k : Nat) (hk : k < l.length), (segCells l)[k * 2]? = some (.int .i64 ((l[k]).1 : Int)) ∧ (segCells l)[k * 2 + 1]? = some (.string (l[k]).2)
  | s :: r, 0, _ => by simp [segCells]
  | s :: r, k + 1, hk => by
    have hk' : k < r.length := by simpa using hk
    obtain ⟨h1, h2⟩ := seg_at r k hk'
    have e1 : (k + 1) * 2 = k * 2 + 1 + 1 := by omega
    rw [e1]
    simp only [segCells, List.getElem?_cons_succ, List.getElem_cons_succ]
    exact ⟨h1, h2⟩

/-- The relation of the loop of 'add'. -/
def AddRel (base : Nat) (G0 : Gr) (n0 : Nat) (segs : List (Nat × ByteArray)) (k n : Nat) (w : World) : Prop :=
  ∃ G own, Inv w base G own ∧ Ext G0 G ∧ (∀ b d, lst G b d = lst G0 b d) ∧ (∃ r, G n = some r) ∧ path G (segs.take k) n0 = some (n, false)

theorem AddRel.below {base : Nat} {G0 : Gr} {n0 : Nat} {segs : List (Nat × ByteArray)} {k n : Nat} {w w' : World} (h : AddRel base G0 n0 segs k n w) (hb : Below w.heap.size w w') : AddRel base G0 n0 segs k n w' := by
  obtain ⟨G, own, h1, h2⟩ := h
  exact ⟨G, own, h1.below hb, h2⟩

theorem add_step {base : Nat} {G0 G : Gr} {own : Nat → Nat × Nat} {n0 : Nat} {segs : List (Nat × ByteArray)} {k n c : Nat} {w : World} (hk : k < segs.length) (hI : Inv w base G own) (hE : Ext G0 G) (hL : ∀ b d, lst G b d = lst G0 b d)
    (hp : path G (segs.take k) n0 = some (n, false)) (h2 : (segs[k]).1 ≠ 2) (hs : stepTo G n segs[k] = some c) : AddRel base G0 n0 segs (k + 1) c w := by
  refine ⟨G, own, hI, hE, hL, ?_, ?_⟩
  · unfold stepTo at hs
    cases hn : G n with
    | none => rw [hn] at hs; cases hs
    | some r =>
      rw [hn] at hs
      dsimp only at hs
      split at hs
      · unfold kids at hs
        cases hl : r.lits with
        | none => rw [hl] at hs; cases hs
        | some p =>
          rw [hl] at hs
          dsimp only at hs
          have hm : ∀ (es : List (ByteArray × Nat)) (key : ByteArray), look es key = some c → ∃ q ∈ es, q.2 = c := by
            intro es key
            induction es with
            | nil => intro h; cases h
            | cons q es ih =>
              intro h
              unfold look at h
              split at h
              · cases h; exact ⟨q, by simp, rfl⟩
              · obtain ⟨q', hq', e⟩ := ih h; exact ⟨q', by simp [hq'], e⟩
          obtain ⟨q, hq, rfl⟩ := hm _ _ hs
          exact ((hI n r hn).map p hl).2.2.2 q hq
      · exact (hI n r hn).wild c hs
  · rw [List.take_succ_eq_append_getElem hk, path_append G _ _ _ _ hp, path_cons_some _ _ _ _ _ h2 hs]
    rfl

theorem unescapeB (s : ByteArray) (w : World) (hs : s.size ≤ 2097152) (hw : Pl.wf s.data.toList = true) :
    Calls Try.prog 38 #[.string s, .bool false] w fun e w' => e = .returned (.string (decB s)) ∧ Below w.heap.size w w' := unescape s w hs hw

theorem zero57 : ∀ w, (zeroValue 57).run Try.prog w = .ok (.pointer none) w := fun _ => by kernel_rfl

theorem look_ent (es : List (ByteArray × Nat)) (key : ByteArray) : (look (entV es) key).getD (.pointer none) = ptrV (look es key) := by
  unfold entV
  rw [look_map (fun c : Nat => Value.pointer (some ⟨c, 0, none⟩)) key es]
  cases look es key <;> rfl
theorem look_ent_none {es : List (ByteArray × Nat)} {key : ByteArray} (h : look es key = none) : look (entV es) key = none := by
  unfold entV
  rw [look_map (fun c : Nat => Value.pointer (some ⟨c, 0, none⟩)) key es, h]; rfl
theorem look_ent_new {es : List (ByteArray × Nat)} {key : ByteArray} (h : look es key = none) (N : Nat) : (look (entV es ++ [(key, .pointer (some ⟨N, 0, none⟩))]) key).getD (.pointer none) = .pointer (some ⟨N, 0, none⟩) := by
  rw [look_append, look_ent_none h]
  simp [look]

theorem cell_set_same {w : World} {b i : Nat} {u v : Value} (h : w.cell? ⟨b, i, none⟩ = some u) : (w.setCell ⟨b, i, none⟩ v).cell? ⟨b, i, none⟩ = some v := by
  unfold World.cell? at h ⊢
  dsimp only at h ⊢
  split at h
  · rename_i c t f hh
    simp only [Option.isSome_none, Bool.false_eq_true, if_false] at h
    have hi : i < c.size := by
      rcases Nat.lt_or_ge i c.size with h1 | h1
      · exact h1
      · rw [Array.getElem?_eq_none h1] at h; cases h
    simp [World.setCell, Array.getElem?_modify, hh, hi]
  · cases h

theorem cell_after {w w3 : World} {o : Obj} {m : Option Nat} {n i : Nat} {v : Value} (h : w.cell? ⟨n, i, none⟩ = some v) (hg : (w.alloc o).grownBy w3 m) (hnm : some n ≠ m) : w3.cell? ⟨n, i, none⟩ = some v := by
  have hlt : n < w.heap.size := cell_lt h
  rw [hg.cell_far ⟨n, i, none⟩ (by simp; omega) hnm, World.cell?_alloc_past _ _ _ hlt]
  exact h

theorem frozen_after {w w3 : World} {o : Obj} {m : Option Nat} {n i : Nat} {v : Value} (h : w.cell? ⟨n, i, none⟩ = some v) (hf : w.frozen? ⟨n, i, none⟩ = false) (hg : (w.alloc o).grownBy w3 m) (hnm : some n ≠ m) : w3.frozen? ⟨n, i, none⟩ = false := by
  have hlt : n < w.heap.size := cell_lt h
  rw [hg.frozen_far ⟨n, i, none⟩ (by simp; omega) hnm, World.frozen?_of_block (w := w) (Below.heap_alloc _ _ _ hlt)]
  exact hf

theorem one_new (w : World) (x : Value) (t : TypeId) {N : Nat} (hN : N = w.heap.size) : ∀ j u, [x][j]? = some u → (w.alloc (.cells #[x] t)).cell? ((⟨N, 0, none⟩ : Addr).add j) = some u := by
  subst hN; exact cell_one_new w x t

theorem set_in (w : World) (o : Obj) (n i : Nat) (v : Value) (hn : n < w.heap.size) : (w.alloc o).setCell ⟨n, i, none⟩ v = (w.setCell ⟨n, i, none⟩ v).alloc o := World.setCell_alloc_past o n i v hn

theorem owns_form {w : World} {base : Nat} {e : TypeId} {size : Nat} {v : Value} {n : Nat} {xs : List Value} (h : w.ownsRow base e size v (n + 1) xs) : ∃ g cap, v = .slice (some ⟨g, 0, none⟩) (n + 1) cap := by
  rcases h.2 with ⟨_, h0⟩ | ⟨g, cap, cur, hv, _⟩
  · omega
  · exact ⟨g, cap, hv⟩

abbrev nodeObj : Obj := .cells #[.map none, .pointer none, .slice none 0 0, .slice none 0 0] 73

section
variable {base : Nat} {G0 G : Gr} {own : Nat → Nat × Nat} {n0 k n : Nat} {segs : List (Nat × ByteArray)} {r : NodeR} {tx : ByteArray} {w1 w3 : World}

/-- A literal that is not there yet, at a node that has a map. -/
theorem add_newlit (hk : k < segs.length) (hI : Inv w1 base G own) (hE : Ext G0 G) (hL : ∀ b d, lst G b d = lst G0 b d) (hn : G n = some r) (hp : path G (segs.take k) n0 = some (n, false)) {m : Nat} {es : List (ByteArray × Nat)}
    (hl : r.lits = some (m, es)) (hlk : look es (decB tx) = none) (hb : base ≤ w1.heap.size) (hsg : segs[k] = (0, tx)) {N : Nat} (hN : N = w1.heap.size)
    (hm : MapIs w3 m (entV es ++ [(decB tx, .pointer (some ⟨N, 0, none⟩))])) (hg : (w1.alloc nodeObj).grownBy w3 (some m)) : AddRel base G0 n0 segs (k + 1) N w3 := by
  subst hN
  have hnone := hI.none_new (Nat.le_refl w1.heap.size)
  have hlt := heap_lt (hI n r hn).cells
  have hx := ext_newlit (key := decB tx) hn hl hnone
  exact add_step hk (hI.newlit hn hl hb hm hg) (hE.trans hx) (fun b d => by rw [lst_new hn hnone (by omega) (by rfl) (by rfl) b d]; exact hL b d) (hx.path _ _ _ hp) (by rw [hsg]; simp) (by rw [hsg]; exact step_newlit (s := (0, tx)) rfl hlk)

/-- A literal at a node that has no map yet. -/
theorem add_mkmap (hk : k < segs.length) (hI : Inv w1 base G own) (hE : Ext G0 G) (hL : ∀ b d, lst G b d = lst G0 b d) (hn : G n = some r) (hp : path G (segs.take k) n0 = some (n, false))
    (hl : r.lits = none) (hb : base ≤ w1.heap.size) (hsg : segs[k] = (0, tx)) {N : Nat} (hN : N = w1.heap.size + 1)
    (hm : MapIs w3 w1.heap.size (entV [] ++ [(decB tx, .pointer (some ⟨N, 0, none⟩))])) (hg : (((w1.setCell ⟨n, 0, none⟩ (.map (some w1.heap.size))).alloc (.map #[] 0)).alloc nodeObj).grownBy w3 (some w1.heap.size)) : AddRel base G0 n0 segs (k + 1) N w3 := by
  have hx := ext_mkmap (m := w1.heap.size) hn hl
  have hsz : ((w1.setCell ⟨n, 0, none⟩ (.map (some w1.heap.size))).alloc (.map #[] 0)).heap.size = w1.heap.size + 1 := by simp [World.setCell]
  exact add_newlit hk (hI.mkmap hn hb) (hE.trans hx) (fun b d => (lst_mkmap hn b d).trans (hL b d)) (Gr.set_same _ _ _) (hx.path _ _ _ hp) rfl rfl (by rw [hsz]; omega) hsg (by rw [hsz]; exact hN) hm hg

/-- A literal that is there. -/
theorem add_haslit (hk : k < segs.length) (hI : Inv w1 base G own) (hE : Ext G0 G) (hL : ∀ b d, lst G b d = lst G0 b d) (hn : G n = some r) (hp : path G (segs.take k) n0 = some (n, false)) {m c : Nat} {es : List (ByteArray × Nat)}
    (hl : r.lits = some (m, es)) (hlk : look es (decB tx) = some c) (hsg : segs[k] = (0, tx)) : AddRel base G0 n0 segs (k + 1) c w1 :=
  add_step hk hI hE hL hp (by rw [hsg]; simp) (by rw [hsg]; simp [stepTo, hn, kids, hl, hlk])

theorem add_newwild (hk : k < segs.length) (hI : Inv w1 base G own) (hE : Ext G0 G) (hL : ∀ b d, lst G b d = lst G0 b d) (hn : G n = some r) (hp : path G (segs.take k) n0 = some (n, false))
    (hl : r.wild = none) (hb : base ≤ w1.heap.size) (hsg : segs[k] = (1, tx)) : AddRel base G0 n0 segs (k + 1) w1.heap.size ((w1.setCell ⟨n, 1, none⟩ (.pointer (some ⟨w1.heap.size, 0, none⟩))).alloc nodeObj) := by
  have hnone := hI.none_new (Nat.le_refl w1.heap.size)
  have hlt := heap_lt (hI n r hn).cells
  have hx := ext_newwild hn hl hnone
  exact add_step hk (hI.newwild hn hb) (hE.trans hx) (fun b d => by rw [lst_new hn hnone (by omega) (by rfl) (by rfl) b d]; exact hL b d) (hx.path _ _ _ hp) (by rw [hsg]; simp) (by rw [hsg]; exact step_newwild (s := (1, tx)) (by simp))

theorem add_haswild (hk : k < segs.length) (hI : Inv w1 base G own) (hE : Ext G0 G) (hL : ∀ b d, lst G b d = lst G0 b d) (hn : G n = some r) (hp : path G (segs.take k) n0 = some (n, false)) {c : Nat}
    (hl : r.wild = some c) (hsg : segs[k] = (1, tx)) : AddRel base G0 n0 segs (k + 1) c w1 :=
  add_step hk hI hE hL hp (by rw [hsg]; simp) (by rw [hsg]; simp [stepTo, hn, hl])

/-- What 'add' leaves. -/
def Added (base : Nat) (G0 : Gr) (n0 : Nat) (segs : List (Nat × ByteArray)) (p : Int) (w : World) : Prop :=
  ∃ G' own' e' d, Inv w base G' own' ∧ Ext G0 G' ∧ path G' segs n0 = some (e', d) ∧ ∀ b x, lst G' b x = if b = e' ∧ x = d then lst G0 b x ++ [p] else lst G0 b x

theorem add_ended {p : Int} {v' : Value} {o : Obj} (hk : ¬ k < segs.length) (hI : Inv w1 base G own) (hE : Ext G0 G) (hL : ∀ b d, lst G b d = lst G0 b d) (hn : G n = some r) (hp : path G (segs.take k) n0 = some (n, false))
    (hown : w3.ownsRow base 3 1 v' (r.endL.length + 1) (r.endL.map (Value.int .i64) ++ [.int .i64 p])) (hg : (w1.alloc o).grownBy w3 r.endV.ownBlock) (hat : v'.ownBlock = r.endV.ownBlock ∨ v'.ownBlock = some (w1.heap.size + 1)) :
    Added base G0 n0 segs p (w3.setCell ⟨n, 2, none⟩ v') := by
  obtain ⟨own', hI'⟩ := hI.append_ended hn hown hg hat
  have hx := ext_lists (r' := { r with endV := v', endL := r.endL ++ [p] }) hn rfl rfl
  rw [List.take_of_length_le (by omega)] at hp
  exact ⟨_, own', n, false, hI', hE.trans hx, hx.path _ _ _ hp, fun b d => by rw [lst_ended hn b d, hL b d]⟩

theorem add_double {p : Int} {v' : Value} {o : Obj} (hk : k < segs.length) (hI : Inv w1 base G own) (hE : Ext G0 G) (hL : ∀ b d, lst G b d = lst G0 b d) (hn : G n = some r) (hp : path G (segs.take k) n0 = some (n, false)) (hsg : segs[k] = (2, tx))
    (hown : w3.ownsRow base 3 1 v' (r.dblL.length + 1) (r.dblL.map (Value.int .i64) ++ [.int .i64 p])) (hg : (w1.alloc o).grownBy w3 r.dblV.ownBlock) (hat : v'.ownBlock = r.dblV.ownBlock ∨ v'.ownBlock = some (w1.heap.size + 1)) :
    Added base G0 n0 segs p (w3.setCell ⟨n, 3, none⟩ v') := by
  obtain ⟨own', hI'⟩ := hI.append_double hn hown hg hat
  have hx := ext_lists (r' := { r with dblV := v', dblL := r.dblL ++ [p] }) hn rfl rfl
  have hp' := hx.path _ _ _ hp
  refine ⟨_, own', n, true, hI', hE.trans hx, ?_, fun b d => by rw [lst_double hn b d, hL b d]⟩
  have hsp : segs = segs.take k ++ segs[k] :: segs.drop (k + 1) := by
    rw [← List.drop_eq_getElem_cons hk, List.take_append_drop]
  rw [hsp, path_append _ _ _ _ _ hp', path_cons_dbl _ _ _ _ (by rw [hsg])]

end

set_option maxRecDepth 100000 in
set_option maxHeartbeats 1000000 in
theorem add (base : Nat) (G0 : Gr) (own0 : Nat → Nat × Nat) (n0 : Nat) (a : Option Addr) (cap : Nat) (segs : List (Nat × ByteArray)) (p : Int) (w : World) (hI : Inv w base G0 own0) (hn : ∃ r, G0 n0 = some r) (hr : RowAt w a (segCells segs))
    (hrb : ∀ b off, a = some ⟨b, off, none⟩ → b < base) (hbase : base ≤ w.heap.size) (hws : ∀ s ∈ segs, s.1 ≤ 2 ∧ s.2.size ≤ 2097152 ∧ Pl.wf s.2.data.toList = true) (hl : segs.length ≤ 65536) (hlb : ∀ b d, (lst G0 b d).length ≤ 65536) :
    Calls Try.prog 43 #[.pointer (some ⟨n0, 0, none⟩), .slice a segs.length cap, .int .i64 p] w fun e w' => e = .returned (.tuple #[]) ∧
      (∃ G' own' e' d, Inv w' base G' own' ∧ Ext G0 G' ∧ path G' segs n0 = some (e', d) ∧ ∀ b x, lst G' b x = if b = e' ∧ x = d then lst G0 b x ++ [p] else lst G0 b x) ∧ Below base w w' := by
  obtain ⟨i0, hi, hz0, hz1, hz2⟩ := info_parts Try.info3
  have HR : Hid (RowAt w a (segCells segs)) := hr
  have HB : Hid (∀ b off, a = some (⟨b, off, none⟩ : Addr) → b < base) := hrb
  have HW : Hid (∀ s ∈ segs, s.1 ≤ 2 ∧ s.2.size ≤ 2097152 ∧ Pl.wf s.2.data.toList = true) := hws
  have HL : Hid (∀ b d, (lst G0 b d).length ≤ 65536) := hlb
  have HS : Hid (AddRel base G0 n0 segs 0 n0 w) := ⟨G0, own0, hI, Ext.refl _, fun _ _ => rfl, hn, rfl⟩
  clear hr hrb hws hlb hI hn
  go_enter Try.func43, Try.ntmps43
  go_wp2_with fail
  go_loopw [0, 11] (fun nv i wr => ∃ (k n : Nat), k ≤ segs.length ∧ i = .int .i64 k ∧ nv = .pointer (some ⟨n, 0, none⟩) ∧ Hid (AddRel base G0 n0 segs k n wr) ∧ Below base w wr) (fun _ i _ => segs.length - (intOf i).toNat)
  case atStart => exact ⟨0, n0, Nat.zero_le _, rfl, rfl, HS.out, Below.refl _ _⟩
  case round =>
    clear HS
    obtain ⟨k, n, hk, rfl, rfl, hrel, hbel⟩ := hrel
    have hbs := hbel.size
    by_cases hlt : k < segs.length
    · obtain ⟨hs1, hs2⟩ := seg_at segs k hlt
      obtain ⟨b, off, ha, hc1⟩ := HR.out _ _ hs1
      subst ha
      obtain ⟨b', off', ha', hc2⟩ := HR.out _ _ hs2
      cases ha'
      have hbb := HB.out b off rfl
      have hcell1 : wr.cell? ⟨b, off + k * 2, none⟩ = some (.int .i64 ((segs[k]).1 : Int)) := (hbel.cell hbb).trans hc1
      have hcell2 : wr.cell? ⟨b, off + k * 2 + 1, none⟩ = some (.string (segs[k]).2) := (hbel.cell (p := ⟨b, off + k * 2 + 1, none⟩) hbb).trans hc2
      obtain ⟨hk2, hsz, hwf⟩ := HW.out segs[k] (List.getElem_mem hlt)
      clear hs1 hs2 hc1 hc2
      generalize hsg : segs[k] = sg at *
      have HSG : Hid (segs[k] = sg) := hsg
      clear hsg
      obtain ⟨kd, tx⟩ := sg
      dsimp only at *
      obtain rfl | rfl | rfl : kd = 0 ∨ kd = 1 ∨ kd = 2 := by omega
      · go_wp2_with fail
        refine (unescapeB tx _ hsz hwf).mono ?_
        rintro e w1 ⟨rfl, hb1⟩
        have hW1 : Below wr.heap.size wr w1 := ((Below.refl _ wr).alloc (Nat.le_refl _) _).trans (hb1.mono (by simp))
        have hbel1 : Below base w w1 := hbel.trans (hW1.mono (by omega))
        have HREL := hrel.out.below hW1
        have hbs1 := hbel1.size
        obtain ⟨G, own, hI, hE, hL, ⟨r, hnr⟩, hp⟩ := HREL
        have hok := hI n r hnr
        obtain ⟨hc0, -, -, -⟩ := hok.cell
        have hfz := hok.frozen 0
        have hlow := hok.low
        have hnlt := heap_lt hok.cells
        have HI : Hid (Inv w1 base G own) := hI
        have HE : Hid (Ext G0 G) := hE
        have HLs : Hid (∀ b d, lst G b d = lst G0 b d) := hL
        have HN : Hid (G n = some r) := hnr
        have HP : Hid (path G (segs.take k) n0 = some (n, false)) := hp
        have HOK : Hid (NodeOk w1 base G own n r) := hok
        clear hI hE hL hnr hp hok hcell1 hcell2 hrel hb1 hsz hwf hbel hW1 hbs
        cases hlit : r.lits with
        | none =>
          have hc0' : w1.cell? ⟨n, 0, none⟩ = some (.map none) := by rw [hc0]; simp [mapV, hlit]
          have HLI : Hid (r.lits = none) := hlit
          clear hc0 hlit
          have heq := fun w => run_eql_map_nil (P := Try.prog) w 71 9 57 none Try.underlying71
          have hmm := @run_makeMap Try.prog
          have hcN : ∀ o, ((w1.setCell ⟨n, 0, none⟩ (.map (some w1.heap.size))).alloc o).cell? ⟨n, 0, none⟩ = some (.map (some w1.heap.size)) := fun o => by
            rw [World.cell?_alloc_past _ _ _ (by simp [World.setCell]; exact hnlt), cell_set_same hc0']
          have hsz1 : (w1.setCell ⟨n, 0, none⟩ (.map (some w1.heap.size))).heap.size = w1.heap.size := by simp [World.setCell]
          have hma : MapIs ((w1.setCell ⟨n, 0, none⟩ (.map (some w1.heap.size))).alloc (.map #[] 0)) w1.heap.size (entV []) := ⟨#[], 0, by have := heap_alloc_new (w1.setCell ⟨n, 0, none⟩ (.map (some w1.heap.size))) (.map #[] 0); rw [hsz1] at this; exact this, rfl⟩
          have hma' : MapIs (((w1.setCell ⟨n, 0, none⟩ (.map (some w1.heap.size))).alloc (.map #[] 0)).alloc nodeObj) w1.heap.size (entV []) := hma.kept (Below.heap_alloc _ _ _ hma.lt)
          clear hsz1
          go_wp2_with (first
            | (at_lookup; refine wpList_lookup_str _ rfl _ _ 71 rfl 9 57 Try.underlying71 Try.underlying9 _ _ rfl hma _ rfl (.pointer none) zero57 (.pointer none) rfl ?_)
            | (at_mapUpdate; refine wpList_update_str _ rfl _ _ _ 71 rfl 9 57 Try.underlying71 Try.underlying9 _ _ rfl hma' _ rfl _ rfl rfl ?_; intro w3 hm3' hg3; have hc3 := cell_after (hcN _) hg3 (fun e => Nat.ne_of_lt hnlt (Option.some.inj e)))
            | (at_lookup; refine wpList_lookup_str _ rfl _ _ 71 rfl 9 57 Try.underlying71 Try.underlying9 _ _ rfl hm3' _ rfl (.pointer none) zero57 (.pointer (some ⟨w1.heap.size + 1, 0, none⟩)) (look_ent_new (es := []) rfl _) ?_))
          go_roundw
          case rel =>
            have hR : AddRel base G0 n0 segs (k + 1) (w1.heap.size + 1) w3 := add_mkmap hlt HI.out HE.out HLs.out HN.out HP.out HLI.out (by omega) HSG.out rfl hm3' hg3
            have hB : Below base w w3 := (((hbel1.setCell (p := ⟨n, 0, none⟩) hlow _).alloc (by simp; omega) _).alloc (by simp; omega) _).grown hg3 (by simp; omega) (fun j h => by cases h; omega)
            first | exact ⟨k + 1, w1.heap.size + 1, by omega, by go_num, rfl, hR, hB⟩ | ((repeat apply Exists.intro); exact ⟨⟨k + 1, w1.heap.size + 1, by omega, by go_num, rfl, hR, hB⟩, rfl⟩)
          case measure => simp [intOf]; omega
        | some me =>
          obtain ⟨m, es⟩ := me
          have hc0' : w1.cell? ⟨n, 0, none⟩ = some (.map (some m)) := by rw [hc0]; simp [mapV, hlit]
          obtain ⟨hm1, hm2, hm3, -⟩ := HOK.out.map _ hlit
          dsimp only at hm1 hm2 hm3
          have hnm : n ≠ m := fun e => by have h1 := HOK.out.mine; rw [e, hm2] at h1; simp at h1
          have HLI : Hid (r.lits = some (m, es)) := hlit
          clear hc0 hlit hm2
          have heq := fun w => run_eql_map_nil (P := Try.prog) w 71 9 57 (some m) Try.underlying71
          have hmlt := hm1.lt
          cases hlk : look es (decB tx) with
          | none =>
            have HK : Hid (look es (decB tx) = none) := hlk
            have HV1 : Hid ((look (entV es) (decB tx)).getD (.pointer none) = .pointer none) := by rw [look_ent, hlk]; rfl
            clear hlk
            have hm1' : MapIs (w1.alloc nodeObj) m (entV es) := hm1.kept (Below.heap_alloc _ _ _ hmlt)
            go_wp2_with (first
              | (at_lookup; refine wpList_lookup_str _ rfl _ _ 71 rfl 9 57 Try.underlying71 Try.underlying9 _ _ rfl hm1 _ rfl (.pointer none) zero57 (.pointer none) HV1.out ?_)
              | (at_mapUpdate; refine wpList_update_str _ rfl _ _ _ 71 rfl 9 57 Try.underlying71 Try.underlying9 _ _ rfl hm1' _ rfl _ rfl (look_ent_none HK.out) ?_; intro w3 hm3' hg3; have hc3 := cell_after hc0' hg3 (fun e => hnm (Option.some.inj e)))
              | (at_lookup; refine wpList_lookup_str _ rfl _ _ 71 rfl 9 57 Try.underlying71 Try.underlying9 _ _ rfl hm3' _ rfl (.pointer none) zero57 (.pointer (some ⟨w1.heap.size, 0, none⟩)) (look_ent_new HK.out _) ?_))
            go_roundw
            case rel =>
              have hR : AddRel base G0 n0 segs (k + 1) w1.heap.size w3 := add_newlit hlt HI.out HE.out HLs.out HN.out HP.out HLI.out HK.out (by omega) HSG.out rfl hm3' hg3
              have hB : Below base w w3 := (hbel1.alloc (by omega) _).grown hg3 (by simp; omega) (fun j h => by cases h; exact hm3)
              first | exact ⟨k + 1, w1.heap.size, by omega, by go_num, rfl, hR, hB⟩ | ((repeat apply Exists.intro); exact ⟨⟨k + 1, w1.heap.size, by omega, by go_num, rfl, hR, hB⟩, rfl⟩)
            case measure => simp [intOf]; omega
          | some c =>
            have HK : Hid (look es (decB tx) = some c) := hlk
            have HV1 : Hid ((look (entV es) (decB tx)).getD (.pointer none) = .pointer (some ⟨c, 0, none⟩)) := by rw [look_ent, hlk]; rfl
            clear hlk
            go_wp2_with (at_lookup; refine wpList_lookup_str _ rfl _ _ 71 rfl 9 57 Try.underlying71 Try.underlying9 _ _ rfl hm1 _ rfl (.pointer none) zero57 (.pointer (some ⟨c, 0, none⟩)) HV1.out ?_)
            go_roundw
            case rel =>
              have hR : AddRel base G0 n0 segs (k + 1) c w1 := add_haslit hlt HI.out HE.out HLs.out HN.out HP.out HLI.out HK.out HSG.out
              first | exact ⟨k + 1, c, by omega, by go_num, rfl, hR, hbel1⟩ | ((repeat apply Exists.intro); exact ⟨⟨k + 1, c, by omega, by go_num, rfl, hR, hbel1⟩, rfl⟩)
            case measure => simp [intOf]; omega
      · obtain ⟨G, own, hI, hE, hL, ⟨r, hnr⟩, hp⟩ := hrel.out
        have hok := hI n r hnr
        obtain ⟨-, hc0, -, -⟩ := hok.cell
        have hfz := hok.frozen 1
        have hlow := hok.low
        have hnlt := heap_lt hok.cells
        have hnlt1 : n < wr.heap.size + 1 := by omega
        have hnlt2 : n < wr.heap.size + 1 + 1 := by omega
        have HI : Hid (Inv wr base G own) := hI
        have HE : Hid (Ext G0 G) := hE
        have HLs : Hid (∀ b d, lst G b d = lst G0 b d) := hL
        have HN : Hid (G n = some r) := hnr
        have HP : Hid (path G (segs.take k) n0 = some (n, false)) := hp
        have HOK : Hid (NodeOk wr base G own n r) := hok
        clear hI hE hL hnr hp hok hrel hsz hwf
        cases hlit : r.wild with
        | none =>
          have hc0' : wr.cell? ⟨n, 1, none⟩ = some (.pointer none) := by rw [hc0]; simp [ptrV, hlit]
          have HLI : Hid (r.wild = none) := hlit
          clear hc0 hlit
          go_wp2
          go_roundw
          case rel =>
            have hbA := (Below.refl wr.heap.size wr).alloc (Nat.le_refl _) (.cells #[.int .i64 1, .string tx] 34)
            have hR := add_newwild (tx := tx) hlt (HI.out.below hbA) HE.out HLs.out HN.out HP.out HLI.out (by simp; omega) HSG.out
            rw [set_in _ _ _ _ _ hnlt] at hR
            have hB : Below base w (((wr.setCell ⟨n, 1, none⟩ (.pointer (some ⟨wr.heap.size + 1, 0, none⟩))).alloc (.cells #[.int .i64 1, .string tx] 34)).alloc nodeObj) := ((hbel.setCell (p := ⟨n, 1, none⟩) hlow _).alloc (by simp; omega) _).alloc (by simp; omega) _
            have hs1 : (wr.alloc (.cells #[.int .i64 1, .string tx] 34)).heap.size = wr.heap.size + 1 := by simp
            rw [hs1] at hR
            first | exact ⟨k + 1, wr.heap.size + 1, by omega, by go_num, rfl, hR, hB⟩ | ((repeat apply Exists.intro); exact ⟨⟨k + 1, wr.heap.size + 1, by omega, by go_num, rfl, hR, hB⟩, rfl⟩)
          case measure => simp [intOf]; omega
        | some c =>
          have hc0' : wr.cell? ⟨n, 1, none⟩ = some (.pointer (some ⟨c, 0, none⟩)) := by rw [hc0]; simp [ptrV, hlit]
          have HLI : Hid (r.wild = some c) := hlit
          clear hc0 hlit
          go_wp2
          go_roundw
          case rel =>
            have hbA := (Below.refl wr.heap.size wr).alloc (Nat.le_refl _) (.cells #[.int .i64 1, .string tx] 34)
            have hR := add_haswild (tx := tx) hlt (HI.out.below hbA) HE.out HLs.out HN.out HP.out HLI.out HSG.out
            have hB := hbel.alloc (by omega : base ≤ wr.heap.size) (.cells #[.int .i64 1, .string tx] 34)
            first | exact ⟨k + 1, c, by omega, by go_num, rfl, hR, hB⟩ | ((repeat apply Exists.intro); exact ⟨⟨k + 1, c, by omega, by go_num, rfl, hR, hB⟩, rfl⟩)
          case measure => simp [intOf]; omega
      · obtain ⟨G, own, hI, hE, hL, ⟨r, hnr⟩, hp⟩ := hrel.out
        have hok := hI n r hnr
        obtain ⟨-, -, -, hc0⟩ := hok.cell
        have hfz := hok.frozen 3
        have hlow := hok.low
        have hnlt := heap_lt hok.cells
        have hnlt1 : n < wr.heap.size + 1 := by omega
        have hnlt2 : n < wr.heap.size + 1 + 1 := by omega
        have HI : Hid (Inv wr base G own) := hI
        have HE : Hid (Ext G0 G) := hE
        have HLs : Hid (∀ b d, lst G b d = lst G0 b d) := hL
        have HN : Hid (G n = some r) := hnr
        have HP : Hid (path G (segs.take k) n0 = some (n, false)) := hp
        have HOK : Hid (NodeOk wr base G own n r) := hok
        clear hI hE hL hnr hp hok hrel hsz hwf
        have hln : r.dblL.length ≤ 65536 := by have h1 := HL.out n true; rw [← HLs.out n true] at h1; simpa [lst, HN.out] using h1
        have hnv : some n ≠ r.dblV.ownBlock := fun e => by have h1 := HOK.out.dblO n e.symm; rw [HOK.out.mine] at h1; simp at h1
        have hcA : (wr.alloc (.cells #[.int .i64 2, .string tx] 34)).cell? ⟨n, 3, none⟩ = some r.dblV := by rw [World.cell?_alloc_past _ _ _ hnlt]; exact hc0
        have hfA : (wr.alloc (.cells #[.int .i64 2, .string tx] 34)).frozen? ⟨n, 3, none⟩ = false := by rw [World.frozen?_of_block (w := wr) (Below.heap_alloc _ _ _ hnlt)]; exact hfz
        have HCA : Hid (_ ∧ _) := ⟨hcA, hfA⟩
        have HNV : Hid (some n ≠ r.dblV.ownBlock) := hnv
        clear hcA hfA hnv
        go_wp2_with (at_builtin; go_must (refine wpList_append_own_at _ rfl _ _ 62 rfl base 3 i0 (.int .i64 0) 1 8 Try.underlying62 hi hz0 hz1 hz2 rfl (by decide) r.dblV _ _ rfl ((HOK.out.dblR.alloc _).alloc _) ⟨wr.heap.size + 1, 0, none⟩ 1 1 [.int .i64 p] rfl rfl (one_new (wr.alloc (.cells #[.int .i64 2, .string tx] 34)) _ _ (by simp)) (by intro u hu; simp at hu; subst hu; rfl) (by unfold maxLen; omega) (by omega) (by simp; omega) ?_); intro v' w3 hown3 hgrow3 _ hat3; obtain ⟨g3, cap3, rfl⟩ := owns_form hown3; have hc3 := cell_after HCA.out.1 hgrow3 HNV.out; have hf3 := frozen_after HCA.out.1 HCA.out.2 hgrow3 HNV.out)
        refine bodyPost_ret (results_none rfl _ _ _) rfl ⟨rfl, ?_, ?_⟩
        · have hbA := (Below.refl wr.heap.size wr).alloc (Nat.le_refl _) (.cells #[.int .i64 2, .string tx] 34)
          exact add_double hlt (HI.out.below hbA) HE.out HLs.out HN.out HP.out HSG.out hown3 hgrow3 (by simpa using hat3)
        · exact (((hbel.alloc (by omega) _).alloc (by simp; omega) _).grown hgrow3 (by simp; omega) (owns_block HOK.out.dblR)).setCell (p := ⟨n, 3, none⟩) hlow _
    · obtain ⟨G, own, hI, hE, hL, ⟨r, hnr⟩, hp⟩ := hrel.out
      have hok := hI n r hnr
      obtain ⟨-, -, hc0, -⟩ := hok.cell
      have hfz := hok.frozen 2
      have hlow := hok.low
      have hnlt := heap_lt hok.cells
      have hnlt1 : n < wr.heap.size + 1 := by omega
      have hln : r.endL.length ≤ 65536 := by have h1 := HL.out n false; rw [← hL n false] at h1; simpa [lst, hnr] using h1
      have HNV : Hid (some n ≠ r.endV.ownBlock) := fun e => by have h1 := hok.endO n e.symm; rw [hok.mine] at h1; simp at h1
      have HI : Hid (Inv wr base G own) := hI
      have HE : Hid (Ext G0 G) := hE
      have HLs : Hid (∀ b d, lst G b d = lst G0 b d) := hL
      have HN : Hid (G n = some r) := hnr
      have HP : Hid (path G (segs.take k) n0 = some (n, false)) := hp
      have HOK : Hid (NodeOk wr base G own n r) := hok
      have HCA : Hid (_ ∧ _) := ⟨hc0, hfz⟩
      clear hI hE hL hnr hp hok hrel
      go_wp2_with (at_builtin; go_must (refine wpList_append_own_at _ rfl _ _ 62 rfl base 3 i0 (.int .i64 0) 1 8 Try.underlying62 hi hz0 hz1 hz2 rfl (by decide) r.endV _ _ rfl (HOK.out.endR.alloc _) ⟨wr.heap.size, 0, none⟩ 1 1 [.int .i64 p] rfl rfl (cell_one_new wr _ _) (by intro u hu; simp at hu; subst hu; rfl) (by unfold maxLen; omega) (by omega) (by simp; omega) ?_); intro v' w3 hown3 hgrow3 _ hat3; obtain ⟨g3, cap3, rfl⟩ := owns_form hown3; have hc3 := cell_after HCA.out.1 hgrow3 HNV.out; have hf3 := frozen_after HCA.out.1 HCA.out.2 hgrow3 HNV.out)
      refine bodyPost_end (results_none rfl _ _ _) rfl ⟨rfl, ?_, ?_⟩
      · exact add_ended hlt HI.out HE.out HLs.out HN.out HP.out hown3 hgrow3 (by simpa using hat3)
      · exact ((hbel.alloc (by omega) _).grown hgrow3 (by simp; omega) (owns_block HOK.out.endR)).setCell (p := ⟨n, 2, none⟩) hlow _

end Go.Proofs.Qxb6001154a
