/-
  NewLedger over a row of nodes without devices: the plain side, and what stands behind each round.
-/
import Derived.Test.Qxb6612460aGreatFmtNewQ
import Derived.Test.Qxb6612460aGreatFmtChooseN
import Derived.Test.Qxb6612460aGreatFmtMaps3
import Derived.Test.Qxb6612460aGreatFmtMixC
import Derived.Maps.AppendAt
namespace Go.Proofs.Qxb6612460aGreatFmt
open Go.RowKit Go.Sort
attribute [local go_sem] Option.isNone_none Option.isNone_some
attribute [local go_sem] sUpon mUpon
attribute [local go_sem] Mix.isVal Mix.makes

abbrev Nd := Int × Int × Nat
abbrev Fs := List ((Int × Int × Int) × Nat × Nat)
def keyOf (nd : Nd) : Int × Int × Int := (nd.1, nd.2.1, (nd.2.2 : Int))
theorem keyOf_inj {a b : Nd} (h : keyOf a = keyOf b) : a = b := by
  obtain ⟨a1, a2, a3⟩ := a
  obtain ⟨b1, b2, b3⟩ := b
  simp only [keyOf, Prod.mk.injEq] at h
  obtain ⟨rfl, rfl, h3⟩ := h
  obtain rfl : a3 = b3 := by omega
  rfl
def esOf (F : Fs) : List ((Int × Int × Int) × Value) := F.map fun p => (p.1, .slice (some ⟨p.2.1, 0, none⟩) 1 p.2.2)
theorem look3_none : ∀ {F : Fs} {key : Int × Int × Int}, key ∉ F.map (·.1) → look3 (esOf F) key = none
  | [], _, _ => rfl
  | p :: r, key, h => by
    simp only [List.map_cons, List.mem_cons, not_or] at h
    simp only [esOf, List.map_cons, look3, if_neg h.1]
    exact look3_none h.2
theorem look3_some : ∀ {F : Fs} {i : Nat} {key : Int × Int × Int} {g c : Nat}, (F.map (·.1)).Nodup → F[i]? = some (key, g, c) → look3 (esOf F) key = some (.slice (some ⟨g, 0, none⟩) 1 c)
  | [], i, _, _, _, _, h => by simp at h
  | p :: r, 0, key, g, c, _, h => by
    simp only [List.getElem?_cons_zero, Option.some.injEq] at h
    subst h
    simp [esOf, look3]
  | p :: r, i + 1, key, g, c, hn, h => by
    simp only [List.getElem?_cons_succ] at h
    simp only [List.map_cons, List.nodup_cons] at hn
    have hne : key ≠ p.1 := fun e => hn.1 (e ▸ List.mem_map.2 ⟨_, List.mem_of_getElem? h, rfl⟩)
    simp only [esOf, List.map_cons, look3, if_neg hne]
    exact look3_some hn.2 h
theorem esOf_snoc (F : Fs) (key : Int × Int × Int) (g c : Nat) : esOf (F ++ [(key, g, c)]) = esOf F ++ [(key, .slice (some ⟨g, 0, none⟩) 1 c)] := by simp [esOf]
theorem esOf_length (F : Fs) : (esOf F).length = F.length := by simp [esOf]

/-! ### Nodes as they came -/
def nodeC (nd : Nd) : List Value := [.string ⟨#[]⟩, .int .i64 nd.1, .int .i64 nd.2.1, .int .i64 (nd.2.2 : Nat), .string ⟨#[]⟩, .slice none 0 0]
def NodesIn (w : World) (nb : Nat) (ns : List Nd) : Prop := ∀ (i : Nat) (nd : Nd), ns[i]? = some nd → ∀ (k : Nat) (x : Value), (nodeC nd)[k]? = some x → w.cell? ⟨nb, i * 6 + k, none⟩ = some x
theorem NodesIn.below {w w' : World} {nb : Nat} {ns : List Nd} {B : Nat} (h : NodesIn w nb ns) (hb : Below B w w') (hB : w.heap.size ≤ B) : NodesIn w' nb ns := fun i nd hi k x hx => (hb.cell (by have := cell_lt (h i nd hi k x hx); omega)).trans (h i nd hi k x hx)

/-! ### The devices that are not described -/
def noDev : ByteArray × Bool := (⟨#[]⟩, false)
theorem nodev_ps {gn : Nat} {nms : List ByteArray} {ps : List (Nat × Bool)} {fr : List Nat} (h : St (List.replicate gn noDev) nms ps fr) (h1 : nms.length ≤ 1) : ps = List.replicate gn (0, true) := by
  apply List.ext_getElem?
  intro i
  have hl := h.plen
  rw [List.length_replicate] at hl
  rcases Nat.lt_or_ge i gn with hi | hi
  · have e : (List.replicate gn noDev)[i]? = some noDev := by simp [hi]
    obtain ⟨p, hp, h2, h3⟩ := h.at' i noDev e
    rw [hp, List.getElem?_replicate, if_pos hi]
    have hp1 := (List.getElem?_eq_some_iff.1 h3).1
    have e1 : p.1 = 0 := by omega
    have e2 : p.2 = true := by rw [h2]; rfl
    rw [← e1, ← e2]
  · rw [List.getElem?_eq_none (by omega), List.getElem?_eq_none (by simp; omega)]

/-- Books of a node, with its spec. -/
structure BookF (w : World) (b : Nat) (nd : Nd) (sp : Nat) : Prop where
  fresh : ∃ fr, FreshAt w b nd.1 nd.2.1 nd.2.2 fr ∧ FrOf (List.replicate nd.2.2 (0, true)) fr ∧ fr.length ≤ 65536
  c0 : w.cell? ⟨b, 0, none⟩ = some (.string ⟨#[]⟩)
  c1 : w.cell? ⟨b, 1, none⟩ = some (.int .i64 nd.1)
  c2 : w.cell? ⟨b, 2, none⟩ = some (.int .i64 nd.2.1)
  c3 : w.cell? ⟨b, 3, none⟩ = some (.int .i64 (nd.2.2 : Nat))
  c4 : w.cell? ⟨b, 4, none⟩ = some (.string ⟨#[]⟩)
  c5 : w.cell? ⟨b, 5, none⟩ = some (.slice none 0 0)
  c15 : w.cell? ⟨b, 15, none⟩ = some (.int .i64 (sp : Nat))
/-- The same in the blocks from B to w's end. -/
def Keep (B : Nat) (w w' : World) : Prop := ∀ k, B ≤ k → k < w.heap.size → w'.heap[k]? = w.heap[k]?
theorem bookF_of {B : Nat} {X : World} {b g8 gi gn sp : Nat} {cpu mem x : Int} {v9 v10 v13 fits : Value} {nms : List ByteArray} {ps : List (Nat × Bool)} {fr xs : List Nat}
    (hb : X.heap[b]? = some (.cells #[.string ⟨#[]⟩, .int .i64 cpu, .int .i64 mem, .int .i64 (gn : Nat), .string ⟨#[]⟩, .slice none 0 0, .int .i64 0, .int .i64 0, .slice (some ⟨g8, 0, none⟩) gn gn, v9, v10, .int .i64 (sumN fr : Nat), .slice (some ⟨gi, 0, none⟩) gn gn, v13, .int .u64 0, .int .i64 (sp : Nat), .int .i64 x, .int .i64 (sumN fr : Nat), .int .i64 cpu, .int .i64 mem, fits, .int .i64 0, .bool true, .int .i64 0] 66 (0, 0))) (hBb : B ≤ b)
    (hx : x = 1000 * (gn : Int)) (h8 : X.ownsRow B 2 1 (.slice (some ⟨g8, 0, none⟩) gn gn) gn (List.replicate gn (.int .i64 0))) (hI : X.ownsRow B 3 1 (.slice (some ⟨gi, 0, none⟩) gn gn) gn (xs.map natV)) (hIx : ∀ (i : Nat) (p : Nat × Bool), ps[i]? = some p → xs[i]? = some p.1)
    (hF : X.ownsRow B 3 1 v13 fr.length (fr.map natV)) (hS : St (List.replicate gn noDev) nms ps fr) (h1 : nms.length ≤ 1) : ∀ w', Keep B X w' → BookF w' b (cpu, mem, gn) sp := by
  intro w' hw'
  have hps := nodev_ps hS h1
  have hb' := (hw' b hBb (heap_lt hb)).trans hb
  have lift : ∀ {e : TypeId} {size : Nat} {v : Value} {n : Nat} {ys : List Value}, X.ownsRow B e size v n ys → w'.ownsRow B e size v n ys := fun h =>
    ownsRow_same h (fun q hq => hw' q (owns_block h q hq) (ownsRow_lt h q hq))
  have c := fun (i : Nat) (v : Value) (hv : (#[.string ⟨#[]⟩, .int .i64 cpu, .int .i64 mem, .int .i64 (gn : Nat), .string ⟨#[]⟩, .slice none 0 0, .int .i64 0, .int .i64 0, .slice (some ⟨g8, 0, none⟩) gn gn, v9, v10, .int .i64 (sumN fr : Nat), .slice (some ⟨gi, 0, none⟩) gn gn, v13, .int .u64 0, .int .i64 (sp : Nat), .int .i64 x, .int .i64 (sumN fr : Nat), .int .i64 cpu, .int .i64 mem, fits, .int .i64 0, .bool true, .int .i64 0] : Array Value)[i]? = some v) => blk_c hb' (Below.refl _ _) (i := i) hv
  have hpl : ps.length = gn := by have := hS.plen; rwa [List.length_replicate] at this
  have hxl : xs.length = ps.length := by have := hI.1; rw [List.length_map] at this; omega
  have hfl : fr.length ≤ 65536 := by have := hS.len; omega
  refine ⟨⟨fr, ⟨?_, c 5 _ rfl, hx ▸ c 16 _ rfl⟩, hps ▸ hS.fr, hfl⟩, c 0 _ rfl, c 1 _ rfl, c 2 _ rfl, c 3 _ rfl, c 4 _ rfl, c 5 _ rfl, c 15 _ rfl⟩
  rw [← hps]
  refine ⟨c 1 _ rfl, c 2 _ rfl, c 4 _ rfl, c 6 _ rfl, c 7 _ rfl, ?_, c 11 _ rfl, ?_, ?_, ?_, c 14 _ rfl, ⟨x, c 16 _ rfl⟩, c 17 _ rfl, c 18 _ rfl, c 19 _ rfl, c 21 _ rfl, c 23 _ rfl⟩
  · obtain ⟨a, cap, e, hr⟩ := owns_slice (lift h8)
    refine ⟨a, cap, ?_, ?_⟩
    · rw [hpl, ← e]; exact c 8 _ rfl
    · rw [hpl]; exact hr
  · obtain ⟨a, cap, e, hr⟩ := owns_slice (lift hI)
    refine ⟨a, cap, ?_, ?_⟩
    · rw [hpl, ← e]; exact c 12 _ rfl
    · rw [← xs_eq hxl hIx]; exact hr
  · obtain ⟨a, cap, e, hr⟩ := owns_slice (lift hF)
    exact ⟨a, cap, by rw [← e]; exact c 13 _ rfl, hr⟩
  · intro i p hp
    rw [hps] at hp
    have := List.mem_replicate.1 (List.mem_of_getElem? hp)
    exact ⟨_, _, _, c 5 _ rfl, .inl ⟨rfl, by rw [this.2]⟩⟩

/-- What stands of the nodes so far. -/
def OldN (ns : List Nd) (bs : List Nat) (F : Fs) (w : World) : Prop :=
  (∀ (t b : Nat) (nd : Nd), bs[t]? = some b → ns[t]? = some nd → ∃ sp g c, F[sp]? = some (keyOf nd, g, c) ∧ BookF w b nd sp) ∧
  (∀ (i : Nat) (nd : Nd) (g c : Nat), F[i]? = some (keyOf nd, g, c) → ∃ b, w.cell? ⟨g, 0, none⟩ = some (.pointer (some ⟨b, 0, none⟩)) ∧ BookF w b nd i)
def ptrs (n : Nat) (bs : List Nat) : List Value := bs.map (fun b => .pointer (some ⟨b, 0, none⟩)) ++ List.replicate (n - bs.length) (.pointer none)
theorem ptrs_set (n : Nat) (bs : List Nat) (b : Nat) (h : bs.length < n) : (ptrs n bs).set bs.length (.pointer (some ⟨b, 0, none⟩)) = ptrs n (bs ++ [b]) := by
  unfold ptrs
  rw [List.set_append_right _ _ (by simp)]
  simp only [List.length_map, Nat.sub_self, List.map_append, List.map_cons, List.map_nil, List.length_append, List.length_singleton, List.append_assoc]
  congr 1
  obtain ⟨k, hk⟩ : ∃ k, n - bs.length = k + 1 := ⟨n - bs.length - 1, by omega⟩
  rw [hk, show n - (bs.length + 1) = k by omega, List.replicate_succ]
  rfl
theorem ptrs_at {n : Nat} {bs : List Nat} {t b : Nat} (h : bs[t]? = some b) : (ptrs n bs)[t]? = some (.pointer (some ⟨b, 0, none⟩)) := by
  have hl := (List.getElem?_eq_some_iff.1 h).1
  unfold ptrs
  rw [List.getElem?_append_left (by simpa using hl), List.getElem?_map, h]
  rfl
theorem ptrs_next {n : Nat} {bs : List Nat} (h : bs.length < n) : (ptrs n bs)[bs.length]? = some (.pointer none) := by
  unfold ptrs
  rw [List.getElem?_append_right (by simp)]
  simp only [List.length_map, Nat.sub_self]
  rw [List.getElem?_replicate, if_pos (by omega)]

/-- Behind j rounds of the first loop; B: the heap's size at the loop. -/
structure RunN (w : World) (B m s f : Nat) (ns : List Nd) (j : Nat) (F : Fs) (bs : List Nat) (wr : World) : Prop where
  low : Below w.heap.size w wr
  size : B ≤ wr.heap.size
  mix : wr.heap[m]? = some (.cells #[.slice none 0 0, .slice none 0 0, .int .i64 0] 55 (0, 0))
  shelf : wr.heap[s]? = some (.cells #[.slice (some ⟨w.heap.size, 0, none⟩) ns.length ns.length, .pointer (some ⟨m, 0, none⟩), .slice none 0 0, .slice none 0 0] 58 (0, 0))
  nodes : wr.ownsRow w.heap.size 71 1 (.slice (some ⟨w.heap.size, 0, none⟩) ns.length ns.length) ns.length (ptrs ns.length bs)
  blen : bs.length = j
  map : MapIs3 wr f (esOf F)
  keys : (F.map (·.1)).Nodup
  few : F.length ≤ j
  old : ∀ w', Keep B wr w' → OldN ns bs F w'
theorem Keep.trans {B : Nat} {a c d : World} (h : Keep B a c) (k : Keep B c d) (hs : a.heap.size ≤ c.heap.size) : Keep B a d := fun q h1 h2 => (k q h1 (by omega)).trans (h q h1 h2)
/-- A node of a spec that was there. -/
theorem old_same {ns : List Nd} {B j b sp g c : Nat} {F : Fs} {bs : List Nat} {wr Z : World} {nd : Nd} (h : ∀ w', Keep B wr w' → OldN ns bs F w') (hs : wr.heap.size ≤ Z.heap.size) (hB : B ≤ wr.heap.size) (hk : Keep B wr Z) (hj : bs.length = j) (hn : ns[j]? = some nd) (hsp : F[sp]? = some (keyOf nd, g, c))
    (hb : ∀ w', Keep wr.heap.size Z w' → BookF w' b nd sp) : ∀ w', Keep B Z w' → OldN ns (bs ++ [b]) F w' := by
  intro w' hw
  obtain ⟨h1, h2⟩ := h w' (hk.trans hw hs)
  refine ⟨fun t b' nd' ht hn' => ?_, h2⟩
  rcases Nat.lt_or_ge t bs.length with hl | hl
  · rw [List.getElem?_append_left hl] at ht
    exact h1 t b' nd' ht hn'
  · have e : t = bs.length := by
      have := (List.getElem?_eq_some_iff.1 ht).1
      simp at this
      omega
    subst e
    rw [List.getElem?_append_right (Nat.le_refl _)] at ht
    simp at ht
    subst ht
    rw [hj, hn] at hn'
    cases hn'
    exact ⟨sp, g, c, hsp, hb w' (fun q h1 h2 => hw q (by omega) h2)⟩
/-- The first node of a spec. -/
theorem old_new {ns : List Nd} {B j b g c : Nat} {F : Fs} {bs : List Nat} {wr Z : World} {nd : Nd} (h : ∀ w', Keep B wr w' → OldN ns bs F w') (hs : wr.heap.size ≤ Z.heap.size) (hB : B ≤ wr.heap.size) (hk : Keep B wr Z) (hj : bs.length = j) (hn : ns[j]? = some nd)
    (hg : wr.heap.size ≤ g) (hc : Z.cell? ⟨g, 0, none⟩ = some (.pointer (some ⟨b, 0, none⟩)))
    (hb : ∀ w', Keep wr.heap.size Z w' → BookF w' b nd F.length) : ∀ w', Keep B Z w' → OldN ns (bs ++ [b]) (F ++ [(keyOf nd, g, c)]) w' := by
  intro w' hw
  obtain ⟨h1, h2⟩ := h w' (hk.trans hw hs)
  have hbw := hb w' (fun q h1 h2 => hw q (by omega) h2)
  have hlast : (F ++ [(keyOf nd, g, c)])[F.length]? = some (keyOf nd, g, c) := by simp
  refine ⟨fun t b' nd' ht hn' => ?_, fun i nd' g' c' hi => ?_⟩
  · rcases Nat.lt_or_ge t bs.length with hl | hl
    · rw [List.getElem?_append_left hl] at ht
      obtain ⟨sp, g', c', e1, e2⟩ := h1 t b' nd' ht hn'
      exact ⟨sp, g', c', by rw [List.getElem?_append_left ((List.getElem?_eq_some_iff.1 e1).1)]; exact e1, e2⟩
    · have e : t = bs.length := by
        have := (List.getElem?_eq_some_iff.1 ht).1
        simp at this
        omega
      subst e
      rw [List.getElem?_append_right (Nat.le_refl _)] at ht
      simp at ht
      subst ht
      rw [hj, hn] at hn'
      cases hn'
      exact ⟨F.length, g, c, hlast, hbw⟩
  · rcases Nat.lt_or_ge i F.length with hl | hl
    · rw [List.getElem?_append_left hl] at hi
      exact h2 i nd' g' c' hi
    · have e : i = F.length := by
        have := (List.getElem?_eq_some_iff.1 hi).1
        simp at this
        omega
      subst e
      rw [hlast] at hi
      simp only [Option.some.injEq, Prod.mk.injEq] at hi
      obtain ⟨e1, rfl, rfl⟩ := hi
      rw [← keyOf_inj e1]
      refine ⟨b, ?_, hbw⟩
      have hl := cell_lt hc
      have : w'.cell? ⟨g, 0, none⟩ = Z.cell? ⟨g, 0, none⟩ := by
        unfold World.cell?
        rw [hw g (by omega) hl]
      exact this.trans hc

/-! ### The nodes that a decision visits -/
def isFirst (ns : List Nd) (u : Nat) : Bool := match ns[u]? with
  | some nd => !(ns.take u).contains nd
  | none => false
def vsOf (ns : List Nd) (t : Nat) : List Nat := (List.range t).filter (isFirst ns)
theorem vsOf_succ (ns : List Nd) (t : Nat) : vsOf ns (t + 1) = vsOf ns t ++ (if isFirst ns t = true then [t] else []) := by
  unfold vsOf
  rw [List.range_succ, List.filter_append]
  congr 1
  by_cases h : isFirst ns t = true <;> simp [h]
theorem vsOf_yes {ns : List Nd} {t : Nat} (h : isFirst ns t = true) : vsOf ns (t + 1) = vsOf ns t ++ [t] := by rw [vsOf_succ, if_pos h]
theorem vsOf_no {ns : List Nd} {t : Nat} (h : ¬ isFirst ns t = true) : vsOf ns (t + 1) = vsOf ns t := by rw [vsOf_succ, if_neg h, List.append_nil]
theorem vsOf_lt {ns : List Nd} {t v : Nat} (h : v ∈ vsOf ns t) : v < t := by
  unfold vsOf at h
  exact List.mem_range.1 (List.mem_filter.1 h).1
theorem vsOf_length (ns : List Nd) (t : Nat) : (vsOf ns t).length ≤ t := by
  unfold vsOf
  have := List.length_filter_le (isFirst ns) (List.range t)
  rwa [List.length_range] at this
theorem vsOf_sorted (ns : List Nd) (t : Nat) : (vsOf ns t).Pairwise (· < ·) := by
  unfold vsOf
  exact List.Pairwise.filter _ List.pairwise_lt_range
/-- Spec i was met ahead of t. -/
def Met (ns : List Nd) (F : Fs) (t i : Nat) : Prop := ∃ (u : Nat) (nd : Nd) (g c : Nat), u < t ∧ ns[u]? = some nd ∧ F[i]? = some (keyOf nd, g, c)
theorem met_first {ns : List Nd} {F : Fs} {t i : Nat} {nd : Nd} {g c : Nat} (hn : ns[t]? = some nd) (hF : F[i]? = some (keyOf nd, g, c)) : isFirst ns t = true ↔ ¬ Met ns F t i := by
  unfold isFirst Met
  rw [hn]
  simp only [Bool.not_eq_true', List.contains_eq_mem, decide_eq_false_iff_not]
  constructor
  · rintro h ⟨u, nd', g', c', hu, hnu, hF'⟩
    rw [hF] at hF'
    simp only [Option.some.injEq, Prod.mk.injEq] at hF'
    have e := keyOf_inj hF'.1
    subst e
    refine h (List.mem_iff_getElem?.2 ⟨u, ?_⟩)
    rw [List.getElem?_take, if_pos hu]
    exact hnu
  · intro h hm
    obtain ⟨u, hu⟩ := List.mem_iff_getElem?.1 hm
    rw [List.getElem?_take] at hu
    split at hu
    · rename_i hlt
      exact h ⟨u, nd, g, c, hlt, hu, hF⟩
    · cases hu
theorem met_next {ns : List Nd} {F : Fs} {t i : Nat} (h : Met ns F t i) : Met ns F (t + 1) i := by
  obtain ⟨u, nd, g, c, h1, h2⟩ := h
  exact ⟨u, nd, g, c, by omega, h2⟩
theorem met_other {ns : List Nd} {F : Fs} {t i sp : Nat} {nd : Nd} {g c : Nat} (hk : (F.map (·.1)).Nodup) (hn : ns[t]? = some nd) (hF : F[sp]? = some (keyOf nd, g, c)) (hne : i ≠ sp) : Met ns F (t + 1) i ↔ Met ns F t i := by
  refine ⟨?_, met_next⟩
  rintro ⟨u, nd', g', c', hu, hnu, hF'⟩
  rcases Nat.lt_or_ge u t with h | h
  · exact ⟨u, nd', g', c', h, hnu, hF'⟩
  · exfalso
    obtain rfl : u = t := by omega
    rw [hn] at hnu
    cases hnu
    apply hne
    have e1 : (F.map (·.1))[i]? = some (keyOf nd) := by rw [List.getElem?_map, hF']; rfl
    have e2 : (F.map (·.1))[sp]? = some (keyOf nd) := by rw [List.getElem?_map, hF]; rfl
    exact (List.getElem?_inj (List.getElem?_eq_some_iff.1 e1).1 hk).1 (e1.trans e2.symm)

/-! ### The rows of idle nodes -/
structure IdleOk (z : World) (base : Nat) (ns : List Nd) (F : Fs) (t : Nat) (ls : List Value) (vv : Value) : Prop where
  row : ∀ (i : Nat) (v : Value), ls[i]? = some v → ∃ l xs, z.ownsRow base 3 1 v l xs ∧ l ≤ t ∧ (l = 0 ↔ ¬ Met ns F t i)
  vis : ∀ (i : Nat) (v : Value) (g : Nat), ls[i]? = some v → v.ownBlock = some g → vv.ownBlock ≠ some g
  apart : ∀ (i i' : Nat) (v v' : Value) (g : Nat), ls[i]? = some v → ls[i']? = some v' → v.ownBlock = some g → v'.ownBlock = some g → i = i'
/-- Behind t rounds of the second loop. B: as in RunN; wo: the world ahead of it; base: behind the make. -/
structure FinN (w : World) (B : Nat) (wo : World) (base m s : Nat) (ns : List Nd) (F : Fs) (bs : List Nat) (tv t : Nat) (z : World) : Prop where
  low : Below w.heap.size w z
  size : base ≤ z.heap.size
  keep : Keep B wo z
  mix : z.heap[m]? = some (.cells #[.slice none 0 0, .slice none 0 0, .int .i64 0] 55 (0, 0))
  nodes : z.ownsRow w.heap.size 71 1 (.slice (some ⟨w.heap.size, 0, none⟩) ns.length ns.length) ns.length (ptrs ns.length bs)
  rest : ∃ (vv : Value) (ls : List Value), z.heap[s]? = some (.cells #[.slice (some ⟨w.heap.size, 0, none⟩) ns.length ns.length, .pointer (some ⟨m, 0, none⟩), .slice (some ⟨wo.heap.size, 0, none⟩) F.length F.length, vv] 58 (0, 0)) ∧
    z.ownsRow wo.heap.size 23 1 (.slice (some ⟨wo.heap.size, 0, none⟩) F.length F.length) F.length ls ∧ z.ownsRow base 3 1 vv (vsOf ns tv).length ((vsOf ns tv).map natV) ∧ IdleOk z base ns F t ls vv

/-- The numbers of the blocks. -/
structure Nums (w0 m s B wo base : Nat) : Prop where
  a : w0 < m
  b : m < s
  c : s < B
  d : B ≤ wo
  e : wo < base
theorem FinN.drewN {w : World} {B : Nat} {wo : World} {base m s : Nat} {ns : List Nd} {F : Fs} {bs : List Nat} {tv t : Nat} {z : World} (h : FinN w B wo base m s ns F bs tv t z) (k : Nat) : FinN w B wo base m s ns F bs tv t (z.drewN k) :=
  ⟨below_drewN h.low k, h.size, h.keep, h.mix, h.nodes, by
    obtain ⟨vv, ls, h1, h2, h3, h4⟩ := h.rest
    exact ⟨vv, ls, h1, h2, h3, ⟨h4.row, h4.vis, h4.apart⟩⟩⟩
theorem FinN.skip {w : World} {B : Nat} {wo : World} {base m s : Nat} {ns : List Nd} {F : Fs} {bs : List Nat} {t : Nat} {z : World} (h : FinN w B wo base m s ns F bs t t z) (hn : ¬ isFirst ns t = true) : FinN w B wo base m s ns F bs (t + 1) t z :=
  ⟨h.low, h.size, h.keep, h.mix, h.nodes, by
    obtain ⟨vv, ls, h1, h2, h3, h4⟩ := h.rest
    exact ⟨vv, ls, h1, h2, by rw [vsOf_no hn]; exact h3, h4⟩⟩
theorem ownBlock_form {v : Value} {g : Nat} {w : World} {base l : Nat} {e : TypeId} {xs : List Value} (h : w.ownsRow base e 1 v l xs) (hv : v.ownBlock = some g) : base ≤ g ∧ g < w.heap.size := ⟨owns_block h g hv, ownsRow_lt h g hv⟩
/-- The node goes to the visit list. -/
theorem FinN.visit {w : World} {B : Nat} {wo : World} {base m s : Nat} {ns : List Nd} {F : Fs} {bs : List Nat} {t : Nat} {z z2 Y4 : World} (nu : Nums w.heap.size m s B wo.heap.size base) (h : FinN w B wo base m s ns F bs t t z) (hn : isFirst ns t = true)
    {vv v' : Value} (hs : z.heap[s]? = some (.cells #[.slice (some ⟨w.heap.size, 0, none⟩) ns.length ns.length, .pointer (some ⟨m, 0, none⟩), .slice (some ⟨wo.heap.size, 0, none⟩) F.length F.length, vv] 58 (0, 0)))
    (h2 : Below z.heap.size z z2) (hown : Y4.ownsRow base 3 1 v' ((vsOf ns t).length + 1) ((vsOf ns t).map natV ++ [.int .i64 (t : Nat)])) (hg : z2.grownBy Y4 vv.ownBlock) (hat : v'.ownBlock = vv.ownBlock ∨ v'.ownBlock = some z2.heap.size) :
    FinN w B wo base m s ns F bs (t + 1) t (Y4.setCell ⟨s, 3, none⟩ v') := by
  obtain ⟨vv', ls, h1, hI, h3, h4⟩ := h.rest
  obtain rfl : vv' = vv := by
    rw [hs] at h1
    simpa using h1.symm
  obtain ⟨na, nb, nc, nd, ne⟩ := nu
  have hz := h.size
  have hz2 := h2.size
  have hvb : ∀ q, vv'.ownBlock = some q → base ≤ q := fun q hq => owns_block h3 q hq
  have same : ∀ q, q < z.heap.size → q ≠ s → vv'.ownBlock ≠ some q → (Y4.setCell ⟨s, 3, none⟩ v').heap[q]? = z.heap[q]? := fun q hq hne hv => by
    rw [Below.heap_setCell _ _ _ _ hne, hg.block q (by omega) (Ne.symm hv)]
    exact h2.block q hq
  have lowv : ∀ q, q < base → vv'.ownBlock ≠ some q := fun q hq e => by have := hvb q e; omega
  have hY4 : Y4.heap[s]? = some (.cells #[.slice (some ⟨w.heap.size, 0, none⟩) ns.length ns.length, .pointer (some ⟨m, 0, none⟩), .slice (some ⟨wo.heap.size, 0, none⟩) F.length F.length, vv'] 58 (0, 0)) := by
    rw [hg.block s (by omega) (Ne.symm (lowv s (by omega))), h2.block s (by omega)]
    exact hs
  have hYs : z.heap.size ≤ (Y4.setCell ⟨s, 3, none⟩ v').heap.size := by have := hg.size; simp [World.setCell]; omega
  have hv'b : ∀ q, v'.ownBlock = some q → base ≤ q := fun q hq => owns_block hown q hq
  refine ⟨?_, by omega, fun q q1 q2 => ?_, ?_, ?_, v', ls, setCell_blk hY4 _, ?_, ?_, ?_⟩
  · refine RowKit.Below.setCell ?_ (by simp only; omega) _
    exact (h.low.trans (h2.mono h.low.size)).grown hg (by have := h.low.size; omega) (fun q hq => by have := hvb q hq; omega)
  · rw [same q (by omega) (by omega) (lowv q (by omega))]
    exact h.keep q q1 q2
  · rw [same m (by omega) (by omega) (lowv m (by omega))]
    exact h.mix
  · exact ownsRow_same h.nodes (fun q hq => by cases hq; exact same _ (by simp only; omega) (by simp only; omega) (lowv _ (by simp only; omega)))
  · exact ownsRow_same hI (fun q hq => by cases hq; exact same _ (by simp only; omega) (by simp only; omega) (lowv _ (by simp only; omega)))
  · rw [vsOf_yes hn, List.length_append, List.map_append]
    exact owns_setCell hown (fun q hq => by have := hv'b q hq; simp only; omega)
  · refine ⟨fun i v hv => ?_, fun i v g hv hvg e => ?_, h4.apart⟩
    · obtain ⟨l, xs, r1, r2⟩ := h4.row i v hv
      exact ⟨l, xs, ownsRow_same r1 (fun q hq => same q (ownsRow_lt r1 q hq) (by have := owns_block r1 q hq; omega) (h4.vis i v q hv hq)), r2⟩
    · obtain ⟨l, xs, r1, r2⟩ := h4.row i v hv
      rcases hat with h5 | h5
      · rw [h5] at e
        exact h4.vis i v g hv hvg e
      · rw [h5] at e
        have := ownsRow_lt r1 g hvg
        have := Option.some.inj e
        omega

/-! ### The class of region 49: one row may be written -/
def OnlyG (S : List Nat) (w w' : World) : Prop := OnlyS S w w' ∧ ∀ g ∈ S, ∀ cs, w.heap[g]? = some (.cells cs 3 (0, 0)) → ∃ cs', cs'.size = cs.size ∧ w'.heap[g]? = some (.cells cs' 3 (0, 0))
def clsG (S : List Nat) : Cls where
  C := OnlyG S
  refl := fun w => ⟨OnlyS.refl _ _, fun g _ cs h => ⟨cs, rfl, h⟩⟩
  trans := fun h k => ⟨h.1.trans k.1, fun g hg cs hc => by
    obtain ⟨c1, e1, h1⟩ := h.2 g hg cs hc
    obtain ⟨c2, e2, h2⟩ := k.2 g hg c1 h1
    exact ⟨c2, e2.trans e1, h2⟩⟩
  drawn := fun w => ⟨⟨rfl, rfl, rfl, Nat.le_refl _, fun _ _ _ => rfl⟩, fun g _ cs h => ⟨cs, rfl, h⟩⟩
/-- The row is owned, whatever it holds. -/
theorem owns_G {S : List Nat} {W W' : World} {base : Nat} {v : Value} {l : Nat} {xs : List Value} (h : W.ownsRow base 3 1 v l xs) (hc : OnlyG S W W') : ∃ ys, W'.ownsRow base 3 1 v l ys := by
  obtain ⟨h1, ⟨rfl, rfl⟩ | ⟨g, cap, cur, rfl, hb, hg, hn, hm, hs, ht⟩⟩ := h
  · exact ⟨[], by simp, .inl ⟨rfl, rfl⟩⟩
  · by_cases hS : g ∈ S
    · obtain ⟨cs', e, h'⟩ := hc.2 g hS cur hg
      exact ⟨cs'.toList.take (l * 1), by simp; omega, .inr ⟨g, cap, cs', rfl, hb, h', hn, hm, e.trans hs, rfl⟩⟩
    · exact ⟨xs, h1, .inr ⟨g, cap, cur, rfl, hb, hc.1.blk hg hS, hn, hm, hs, ht⟩⟩
/-- Where the appended row lies. -/
def RowG (S : List Nat) (base E l : Nat) (u : Value) (W : World) : Prop := (∃ ys, W.ownsRow base 3 1 u (l + 1) ys) ∧ ∃ g c, u = .slice (some ⟨g, 0, none⟩) (l + 1) c ∧ (g ∈ S ∨ E ≤ g)
theorem rowG_lasts (S : List Nat) (base E l : Nat) (u : Value) : LastsC (clsG S) (RowG S base E l u) := by
  rintro W W' hc ⟨⟨ys, hy⟩, h⟩
  exact ⟨owns_G hy hc, h⟩
theorem oneAt_lastsG (S : List Nat) (B : Nat) (hS : ∀ g ∈ S, g < B) (x : Value) (u : Value) : LastsC (clsG S) (OneAt B x u) := by
  rintro W W' hc ⟨g, h1, h2, h3⟩
  exact ⟨g, h1, h2, hc.1.blk h3 (fun e => by have := hS g e; omega)⟩
theorem below_G {S : List Nat} {W W' : World} (h : Below W.heap.size W W') : OnlyG S W W' := ⟨OnlyS.of h, fun g _ cs hc => ⟨cs, rfl, (h.block g (heap_lt hc)).trans hc⟩⟩
theorem one_makesG {S : List Nat} {w : World} (p : InC (clsG S) w) (v : Value) : OnlyG S p.W (p.W.alloc (.cells #[v] 3)) ∧ OneAt w.heap.size v (.slice (some ⟨p.W.heap.size, 0, none⟩) 1 1) (p.W.alloc (.cells #[v] 3)) :=
  ⟨below_G (below_alloc1 _ _), _, rfl, p.only.1.size, heap_alloc_new _ _⟩
theorem append_makesG {S : List Nat} {o : Oper} {a : Act} {W : World} {base E l : Nat} {v : Value} {ys : List Value} (s x : Operand) (ho : o.op = .call { callee := .builtin .append, args := #[s, x], argTypes := #[23, 23] }) (hs : a.eval s = v) (hown : W.ownsRow base 3 1 v l ys) (hv : ∀ g, v.ownBlock = some g → g ∈ S) (hl : l ≤ 65536) (hE : E ≤ W.heap.size) (hB : base ≤ W.heap.size) (g : Nat) (k : Int) (hx : a.eval x = .slice (some ⟨g, 0, none⟩) 1 1) (hg : W.heap[g]? = some (.cells #[.int .i64 k] 3 (0, 0))) :
    MixC.makes (clsG S) Tryz.prog W (fun u => ∃ g c : Nat, u = .slice (some ⟨g, 0, none⟩) (l + 1) c) (RowG S base E l) ((execOp a.eval o).run Tryz.prog W) := by
  obtain ⟨i0, hi, hz0, hz1, hz2⟩ := info_parts Tryz.info3
  have hnew : ∀ j u, [Value.int .i64 k][j]? = some u → W.cell? ((⟨g, 0, none⟩ : Addr).add j) = some u := fun j u hu => by
    have hj : j = 0 := by
      rcases j with _ | j
      · rfl
      · simp at hu
    subst hj
    simp at hu
    subst hu
    have e : (⟨g, 0, none⟩ : Addr).add 0 = ⟨g, 0, none⟩ := by unfold Addr.add; split <;> simp_all
    rw [e]
    exact (cell_of_row W g 0 _ 3 (0, 0) hg).trans rfl
  obtain ⟨v', w', hr, h2, h3, h4, h5⟩ := run_append_own_at (P := Tryz.prog) W base 23 o.type 3 i0 (.int .i64 0) 1 8 Tryz.underlying23 hi hz0 hz1 hz2 rfl (by decide) v l ys hown ⟨g, 0, none⟩ 1 1 [.int .i64 k] rfl hnew (by intro u hu; simp at hu; subst hu; rfl) (by unfold maxLen; omega) (by omega) hB
  have hfin : OnlyG S W w' := by
    refine ⟨(OnlyS.refl _ _).grown h3 (fun q hq => .inl (hv q hq)), fun q hq cs hcs => ?_⟩
    by_cases hvq : v.ownBlock = some q
    · obtain ⟨-, ⟨rfl, -⟩ | ⟨g1, cap, cur, rfl, hb1, hg1, hn1, hm1, hs1, ht1⟩⟩ := hown
      · cases hvq
      · obtain rfl : g1 = q := by simpa [Value.ownBlock] using hvq
        rw [hg1] at hcs
        have ecs : cur = cs := by simpa using hcs
        rw [← ecs]
        by_cases hroom : l + 1 ≤ cap
        · have hr2 := run_append_room (P := Tryz.prog) W 23 o.type 3 i0 Tryz.underlying23 hi g1 l cap cur hg1 ⟨g, 0, none⟩ 1 1 [.int .i64 k] (by rw [hz1]; rfl) hnew (by intro u hu; simp at hu; subst hu; rfl) hroom (by rw [hz1]; simp; omega)
          rw [hr2] at hr
          injection hr with e1 e2
          subst e2
          refine ⟨_, ?_, setRow_heap W g1 cur _ 3 _ hg1⟩
          simp only [List.size_toArray, List.length_append, List.length_take, List.length_drop, Array.length_toList, List.length_singleton, hz1]
          omega
        · have hr2 := run_append_grow (P := Tryz.prog) W 23 o.type 3 i0 (.int .i64 0) Tryz.underlying23 hi hz0 ⟨g1, 0, none⟩ l cap (cur.toList.take (l * 1)) (by rw [hz1]; simp; omega) (fun j u hu => ?_) ⟨g, 0, none⟩ 1 1 [.int .i64 k] (by rw [hz1]; rfl) hnew (by omega) (by omega) (growslice_fits (by omega) (by rw [hz2]; omega))
          · rw [hr2] at hr
            injection hr with e1 e2
            subst e2
            exact ⟨cur, rfl, (heap_alloc_old W.drew _ (heap_lt hg1)).trans hg1⟩
          · have hjl := (List.getElem?_eq_some_iff.1 hu).1
            rw [List.length_take] at hjl
            rw [List.getElem?_take, if_pos (by omega)] at hu
            have e : (⟨g1, 0, none⟩ : Addr).add j = ⟨g1, j, none⟩ := by unfold Addr.add; split <;> simp_all
            rw [e]
            refine (cell_of_row W g1 j _ 3 (0, 0) hg1).trans ?_
            rw [← Array.getElem?_toList]
            exact hu
    · refine ⟨cs, rfl, (h3.block q (heap_lt hcs) (fun e => hvq e.symm)).trans hcs⟩
  obtain ⟨g', c', rfl⟩ := owns_form' h2 (by omega)
  unfold execOp
  simp only [ho, Go.resolve, invoke, builtin, Sem.run_bind, Sem.run_pure, Result.andThen_ok, List.map_toArray, List.map_cons, List.map_nil, hs, hx, hr, MixC.makes]
  refine ⟨hfin, ⟨_, _, rfl⟩, ⟨_, h2⟩, _, _, rfl, ?_⟩
  rcases h5 with h5 | h5
  · exact .inl (hv _ h5.symm)
  · have : g' = W.heap.size := by simpa [Value.ownBlock] using h5
    exact .inr (by omega)

/-- The node goes to its spec's idle row. -/
theorem FinN.idle {w : World} {B : Nat} {wo : World} {base m s : Nat} {ns : List Nd} {F : Fs} {bs : List Nat} {t sp l : Nat} {Y Z : World} (nu : Nums w.heap.size m s B wo.heap.size base) (h : FinN w B wo base m s ns F bs (t + 1) t Y) (hk : (F.map (·.1)).Nodup)
    {nd : Nd} {g1 c1 : Nat} (hn : ns[t]? = some nd) (hF : F[sp]? = some (keyOf nd, g1, c1)) {ls : List Value} {v u : Value} (hls : Y.ownsRow wo.heap.size 23 1 (.slice (some ⟨wo.heap.size, 0, none⟩) F.length F.length) F.length ls) (hv : ls[sp]? = some v) {xs : List Value} (hl : Y.ownsRow base 3 1 v l xs) (hlt : l ≤ t)
    {S : List Nat} (hS : ∀ g, g ∈ S ↔ v.ownBlock = some g) (hZ : OnlyG S Y Z) (hu : RowG S base Y.heap.size l u Z) :
    FinN w B wo base m s ns F bs (t + 1) (t + 1) (Z.setCell ⟨wo.heap.size, sp, none⟩ u) := by
  obtain ⟨vv, ls', h1, hI, h3, h4⟩ := h.rest
  have els : ls' = ls := by
    obtain ⟨a1, b1⟩ := hI
    obtain ⟨a2, b2⟩ := hls
    rcases b1 with ⟨e, _⟩ | ⟨g, cap, cur, e1, e2, e3, e4, e5, e6, e7⟩
    · cases e
    · rcases b2 with ⟨e, _⟩ | ⟨g', cap', cur', f1, f2, f3, f4, f5, f6, f7⟩
      · cases e
      · cases e1
        cases f1
        rw [e3] at f3
        have : cur = cur' := by simpa using f3
        rw [← e7, ← f7, this]
  subst els
  obtain ⟨na, nb, nc, nd', ne⟩ := nu
  have hz := h.size
  have hSb : ∀ q, q ∈ S → base ≤ q := fun q hq => owns_block hl q ((hS q).1 hq)
  have same : ∀ q, q < Y.heap.size → q ∉ S → q ≠ wo.heap.size → (Z.setCell ⟨wo.heap.size, sp, none⟩ u).heap[q]? = Y.heap[q]? := fun q hq hne hw => by
    rw [Below.heap_setCell _ _ _ _ hw]
    exact hZ.1.block q hq hne
  have lows : ∀ q, q < base → q ∉ S := fun q hq e => by have := hSb q e; omega
  obtain ⟨⟨ys, hy⟩, gu, cu, rfl, hgu⟩ := hu
  have hub : base ≤ gu := owns_block hy gu rfl
  have hZs : Y.heap.size ≤ (Z.setCell ⟨wo.heap.size, sp, none⟩ (.slice (some ⟨gu, 0, none⟩) (l + 1) cu)).heap.size := by have := hZ.1.size; simpa [World.setCell] using this
  have hIZ : Z.ownsRow wo.heap.size 23 1 (.slice (some ⟨wo.heap.size, 0, none⟩) F.length F.length) F.length ls' := hZ.1.owns hI (fun q hq => by cases hq; exact lows _ (by simp only; omega))
  have hsl : sp < ls'.length := (List.getElem?_eq_some_iff.1 hv).1
  refine ⟨?_, by omega, fun q q1 q2 => ?_, ?_, ?_, vv, ls'.set sp (.slice (some ⟨gu, 0, none⟩) (l + 1) cu), ?_, ?_, ?_, ?_⟩
  · refine RowKit.Below.setCell ?_ (by simp only; omega) _
    exact h.low.trans (hZ.1.below h.low.size (fun q hq => by have := hSb q hq; omega))
  · rw [same q (by omega) (lows q (by omega)) (by omega)]
    exact h.keep q q1 q2
  · rw [same m (by omega) (lows m (by omega)) (by omega)]
    exact h.mix
  · exact ownsRow_same h.nodes (fun q hq => by cases hq; exact same _ (by simp only; omega) (lows _ (by simp only; omega)) (by simp only; omega))
  · rw [same s (by omega) (lows s (by omega)) (by omega)]
    exact h1
  · exact (hIZ.stored sp _).1
  · refine ownsRow_same h3 (fun q hq => same q (ownsRow_lt h3 q hq) (fun e => h4.vis sp v q hv ((hS q).1 e) hq) (by have := owns_block h3 q hq; omega))
  · have hset : ∀ {i : Nat} {x : Value}, (ls'.set sp (.slice (some ⟨gu, 0, none⟩) (l + 1) cu))[i]? = some x → (i = sp ∧ x = .slice (some ⟨gu, 0, none⟩) (l + 1) cu) ∨ (i ≠ sp ∧ ls'[i]? = some x) := fun {i x} hx => by
      by_cases he : i = sp
      · subst he
        rw [List.getElem?_set_self hsl] at hx
        exact .inl ⟨rfl, (Option.some.inj hx).symm⟩
      · rw [List.getElem?_set_ne (Ne.symm he)] at hx
        exact .inr ⟨he, hx⟩
    have newOther : ∀ {i : Nat} {x : Value}, i ≠ sp → ls'[i]? = some x → x.ownBlock ≠ some gu := fun {i x} hne hx e => by
      obtain ⟨l', xs', r1, r2⟩ := h4.row i x hx
      rcases hgu with hgu | hgu
      · exact hne (h4.apart i sp x v gu hx hv e ((hS gu).1 hgu))
      · have := ownsRow_lt r1 gu e
        omega
    refine ⟨fun i x hx => ?_, fun i x g hx hxg e => ?_, fun i i' x x' g hx hx' hg hg' => ?_⟩
    · rcases hset hx with ⟨rfl, rfl⟩ | ⟨hne, hx⟩
      · exact ⟨l + 1, ys, owns_setCell hy (fun q hq => by cases hq; simp only; omega), by omega, ⟨fun e => by omega, fun e => absurd ⟨t, nd, g1, c1, by omega, hn, hF⟩ e⟩⟩
      · obtain ⟨l', xs', r1, r2, r3⟩ := h4.row i x hx
        refine ⟨l', xs', ownsRow_same r1 (fun q hq => same q (ownsRow_lt r1 q hq) (fun e => hne (h4.apart i sp x v q hx hv hq ((hS q).1 e))) (by have := owns_block r1 q hq; omega)), by omega, ?_⟩
        rw [met_other hk hn hF hne]
        exact r3
    · rcases hset hx with ⟨rfl, rfl⟩ | ⟨hne, hx⟩
      · have eg : gu = g := by simpa [Value.ownBlock] using hxg
        subst eg
        rcases hgu with hgu | hgu
        · exact h4.vis i v gu hv ((hS gu).1 hgu) e
        · have := ownsRow_lt h3 gu e
          omega
      · exact h4.vis i x g hx hxg e
    · rcases hset hx with ⟨rfl, rfl⟩ | ⟨hne, hx⟩ <;> rcases hset hx' with ⟨e2, e2'⟩ | ⟨hne', hx'⟩
      · exact e2.symm
      · have eg : gu = g := by simpa [Value.ownBlock] using hg
        subst eg
        exact absurd hg' (newOther hne' hx')
      · subst e2'
        have eg : gu = g := by simpa [Value.ownBlock] using hg'
        subst eg
        exact absurd hg (newOther hne hx)
      · exact h4.apart i i' x x' g hx hx' hg hg'

theorem below_drewN_alloc (z : World) (k : Nat) (o : Obj) : Below z.heap.size z ((z.drewN k).alloc o) := (below_drewN (Below.refl _ _) k).alloc (Nat.le_refl _) o
theorem nodup_one {nms : List ByteArray} (h : nms.Nodup) (he : ∀ x ∈ nms, x = (⟨#[]⟩ : ByteArray)) : nms.length ≤ 1 := by
  match nms, h, he with
  | [], _, _ => simp
  | [_], _, _ => simp
  | x :: y :: r, h, he =>
    have e1 := he x (by simp)
    have e2 := he y (by simp)
    simp [e1, e2] at h
theorem aux_none {w : World} {B b g8 gn : Nat} (h8 : w.ownsRow B 2 1 (.slice (some ⟨g8, 0, none⟩) gn gn) gn (List.replicate gn (.int .i64 0))) (h8b : g8 ≠ b) : Aux w b (.slice none 0 0) (.slice (some ⟨g8, 0, none⟩) gn gn) (List.replicate gn true) where
  dev := ⟨none, 0, 0, rfl, .inl ⟨rfl, fun i h hi => (List.mem_replicate.1 (List.mem_of_getElem? hi)).2⟩⟩
  held := ⟨g8, gn, by rw [List.length_replicate], h8b, fun i hi => by
    rw [List.length_replicate] at hi
    rw [h8.cellAt i (by omega)]
    simp [hi]⟩
theorem mem_key {F : Fs} {key : Int × Int × Int} (h : key ∈ F.map (·.1)) : ∃ (sp g c : Nat), F[sp]? = some (key, g, c) := by
  obtain ⟨⟨k, g, c⟩, hm, he⟩ := List.mem_map.1 h
  obtain ⟨sp, hsp⟩ := List.mem_iff_getElem?.1 hm
  simp only at he
  subst he
  exact ⟨sp, g, c, hsp⟩
theorem keys_snoc {F : Fs} {key : Int × Int × Int} {g c : Nat} (h : (F.map (·.1)).Nodup) (hn : key ∉ F.map (·.1)) : ((F ++ [(key, g, c)]).map (·.1)).Nodup := by
  rw [List.map_append]
  exact List.nodup_append.2 ⟨h, by simp, fun x hx y hy => by simp at hy; subst hy; exact fun e => hn (e ▸ hx)⟩

end Go.Proofs.Qxb6612460aGreatFmt
