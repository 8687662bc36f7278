import Derived.Test.Qxb6612460aGreatFmtTryL
import Derived.Test.Qxb6612460aGreatFmtChoose
namespace Go.Proofs.Qxb6612460aGreatFmt
open Go.RowKit Go.Sort
attribute [local go_sem] Option.isNone_none Option.isNone_some
attribute [local go_sem] sUpon mUpon
attribute [local go_sem] Mix.isVal Mix.makes

/-- What a request takes of GPUs in all. -/
def milG (k : Nat) (sh : Int) : Int := if sh = 0 then 1000 * (k : Int) else sh
/-- The requests of the law. -/
def ReqOk (k : Nat) (sh : Int) : Prop := (sh = 0 ∧ k ≤ 65536) ∨ (0 < sh ∧ sh < 1000 ∧ k = 1)

theorem decidingG (s m : Nat) (rc rm : Int) (k : Nat) (sh : Int) (hr : ReqOk k sh) (across : Bool) (w : World) (hs : w.cell? ⟨s, 1, none⟩ = some (.pointer (some ⟨m, 0, none⟩))) (hm : MixAt w m) :
    Calls Tryz.prog 32 #[.pointer (some ⟨s, 0, none⟩), .agg #[.int .i64 rc, .int .i64 rm, .int .i64 k, .int .i64 sh, .int .i64 0, .int .i64 0, .bool false, .string ⟨#[]⟩, .bool across]] w fun e w' => e = .returned (.agg #[.int .i64 rc, .int .i64 rm, .int .i64 k, .int .i64 sh, .int .i64 0, .int .i64 0, .bool false, .string ⟨#[]⟩, .bool across, .int .i64 (-1), .bool false, .int .i64 (milG k sh)]) ∧ Below w.heap.size w w' := by
  unfold milG
  rcases hr with ⟨rfl, h⟩ | ⟨h0, h1, rfl⟩
  · rw [if_pos rfl]
    exact deciding s m rc rm k across w h hs hm
  · rw [if_neg (by omega)]
    exact decidingS s m rc rm sh across w h0 h1 hs hm

theorem try_firstG (s m i b q c : Nat) (cpu mem rc rm : Int) (k : Nat) (sh : Int) (hr : ReqOk k sh) (across : Bool) (gn : Nat) (fr : List Nat) (w : World)
    (hN : NodeAt w s m i b) (hB : FreshAt w b cpu mem gn fr) (hq : w.heap[q]? = some (.cells #[.int .i64 rc, .int .i64 rm, .int .i64 k, .int .i64 sh, .int .i64 0, .int .i64 0, .bool false, .string ⟨#[]⟩, .bool across, .int .i64 (-1), .bool false, .int .i64 (milG k sh)] 121 (0, 0))) (hcn : w.cell? ⟨c, 0, none⟩ = some (.int .i64 (-1)))
    (hc0 : 0 ≤ cpu) (hc1 : cpu ≤ 9223372036854775807) (hm0 : 0 ≤ mem) (hm1 : mem ≤ 9223372036854775807) (hpl : gn ≤ 65536) (hfl : fr.length ≤ 65536) (hF : FrOf (List.replicate gn (0, true)) fr) :
    Calls Tryz.prog 34 #[.pointer (some ⟨s, 0, none⟩), .int .i64 i, .pointer (some ⟨q, 0, none⟩), .pointer (some ⟨c, 0, none⟩), .int .i64 (-9223372036854775808)] w (TryPost w cpu mem rc rm k across (List.replicate gn (0, true)) fr) := by
  unfold milG at hq
  rcases hr with ⟨rfl, h⟩ | ⟨h0, h1, rfl⟩
  · rw [if_pos rfl] at hq
    exact try_first s m i b q c cpu mem rc rm k across _ fr w hN hB.books hq hcn hc0 hc1 hm0 hm1 h hfl (by rw [List.length_replicate]; exact hpl) hF
  · rw [if_neg (by omega)] at hq
    exact try_firstS s m i b q c cpu mem rc rm sh h0 h1 across gn fr w hN hB hq hcn hc0 hc1 hm0 hm1 hpl hF

/-- A shelf of fresh nodes, and the nodes that a decision visits. -/
structure ShelfAt (w : World) (s m : Nat) (ns : List (Int × Int × Nat)) (vs : List Nat) : Prop where
  node : ∀ (i : Nat) (n : Int × Int × Nat), ns[i]? = some n → ∃ b fr, NodeAt w s m i b ∧ FreshAt w b n.1 n.2.1 n.2.2 fr ∧ FrOf (List.replicate n.2.2 (0, true)) fr ∧ fr.length ≤ 65536
  visit : ∃ a cap, w.cell? ⟨s, 3, none⟩ = some (.slice a vs.length cap) ∧ RowAt w a (vs.map natV)
  inv : ∀ v ∈ vs, v < ns.length
  sorted : vs.Pairwise (· < ·)
  bound : ∀ n ∈ ns, 0 ≤ n.1 ∧ n.1 ≤ 9223372036854775807 ∧ 0 ≤ n.2.1 ∧ n.2.1 ≤ 9223372036854775807 ∧ n.2.2 ≤ 65536
  mixp : w.cell? ⟨s, 1, none⟩ = some (.pointer (some ⟨m, 0, none⟩))
  mix : MixAt w m
theorem ShelfAt.below {w w' : World} {s m : Nat} {ns : List (Int × Int × Nat)} {vs : List Nat} (h : ShelfAt w s m ns vs) (hb : Below w.heap.size w w') : ShelfAt w' s m ns vs where
  node := fun i n hn => by
    obtain ⟨b, fr, h1, h2, h3⟩ := h.node i n hn
    exact ⟨b, fr, h1.below hb, h2.below hb, h3⟩
  visit := by
    obtain ⟨a, cap, h1, h2⟩ := h.visit
    exact ⟨a, cap, (hb.cell (cell_lt h1)).trans h1, h2.below hb⟩
  inv := h.inv
  sorted := h.sorted
  bound := h.bound
  mixp := (hb.cell (cell_lt h.mixp)).trans h.mixp
  mix := h.mix.below hb
theorem ShelfAt.sorted' {w : World} {s m : Nat} {ns : List (Int × Int × Nat)} {vs : List Nat} (h : ShelfAt w s m ns vs) {i j u v : Nat} (hu : vs[i]? = some u) (hv : vs[j]? = some v) (hij : i < j) : u < v := by
  obtain ⟨h1, rfl⟩ := List.getElem?_eq_some_iff.1 hu
  obtain ⟨h2, rfl⟩ := List.getElem?_eq_some_iff.1 hv
  exact List.pairwise_iff_getElem.1 h.sorted i j h1 h2 hij

/-- Node n has room. -/
def FitN (rc rm : Int) (k : Nat) (n : Int × Int × Nat) : Prop := rc ≤ n.1 ∧ rm ≤ n.2.1 ∧ k ≤ n.2.2
/-- None of the nodes of the list has room. -/
def NoneN (ns : List (Int × Int × Nat)) (vs : List Nat) (rc rm : Int) (k : Nat) : Prop := ∀ u ∈ vs, ∀ n, ns[u]? = some n → ¬ FitN rc rm k n
def HitN (ns : List (Int × Int × Nat)) (vs : List Nat) (rc rm : Int) (k v : Nat) (nd : Int × Int × Nat) : Prop := ∃ t0, vs[t0]? = some v ∧ ns[v]? = some nd ∧ FitN rc rm k nd ∧ NoneN ns (vs.take t0) rc rm k
theorem no_next {ns : List (Int × Int × Nat)} {vs : List Nat} {rc rm : Int} {k t v : Nat} {nd : Int × Int × Nat} (hv : vs[t]? = some v) (hn : ns[v]? = some nd) (h : NoneN ns (vs.take t) rc rm k) (hf : ¬ FitN rc rm k nd) : NoneN ns (vs.take (t + 1)) rc rm k := by
  intro u hu n hun
  obtain ⟨hl, rfl⟩ := List.getElem?_eq_some_iff.1 hv
  rw [List.take_succ_eq_append_getElem hl, List.mem_append, List.mem_singleton] at hu
  rcases hu with hu | rfl
  · exact h u hu n hun
  · rw [hn] at hun
    cases hun
    exact hf

def decVN (node : Int) (ids : Value) (cpu mem g sh : Int) : Value := .agg #[.int .i64 node, ids, .int .i64 cpu, .int .i64 mem, .int .i64 g, .int .i64 sh, .int .i64 0, .int .i64 0, .bool false, .string ⟨#[]⟩, .int .i64 0, .int .u64 0]
def ChoosePostN (w : World) (ns : List (Int × Int × Nat)) (vs : List Nat) (rc rm : Int) (k : Nat) (sh : Int) (across : Bool) (e : Ending) (w' : World) : Prop :=
  Below w.heap.size w w' ∧
  ((∃ (v : Nat) (nd : Int × Int × Nat), HitN ns vs rc rm k v nd ∧ ∃ (g cap : Nat) (L : List Nat), e = .returned (.tuple #[decVN v (.slice (some ⟨g, 0, none⟩) k cap) rc rm k sh, .bool true]) ∧ w'.ownsRow w.heap.size 3 1 (.slice (some ⟨g, 0, none⟩) k cap) k (L.map natV) ∧ GrantedIds (List.replicate nd.2.2 (0, true)) k (!across) L) ∨
   (NoneN ns vs rc rm k ∧ e = .returned (.tuple #[decVN 0 (.slice none 0 0) 0 0 0 0, .bool false])))
/-- What stands behind t rounds. -/
def RoundN (W2 wr : World) (gb : Nat) (ns : List (Int × Int × Nat)) (vs : List Nat) (rc rm : Int) (k : Nat) (across : Bool) (t : Nat) : Prop :=
  Below gb W2 wr ∧ W2.heap.size ≤ wr.heap.size ∧
  ((NoneN ns (vs.take t) rc rm k ∧ wr.heap[gb]? = some (.cells #[.int .i64 (-1), .int .u8 0, .int .i64 0, .slice none 0 0] 127)) ∨
   (∃ (t0 v : Nat) (nd : Int × Int × Nat) (g cap : Nat) (L : List Nat), t0 < t ∧ vs[t0]? = some v ∧ ns[v]? = some nd ∧ FitN rc rm k nd ∧ NoneN ns (vs.take t0) rc rm k ∧ wr.heap[gb]? = some (.cells #[.int .i64 (v : Nat), .int .u8 2, .int .i64 0, .slice (some ⟨g, 0, none⟩) k cap] 127 (0, 0)) ∧ wr.ownsRow (gb + 1) 3 1 (.slice (some ⟨g, 0, none⟩) k cap) k (L.map natV) ∧ GrantedIds (List.replicate nd.2.2 (0, true)) k (!across) L))

set_option maxRecDepth 100000 in
set_option maxHeartbeats 4000000 in
theorem chooseN (s m : Nat) (ns : List (Int × Int × Nat)) (vs : List Nat) (rc rm : Int) (k : Nat) (sh : Int) (across : Bool) (w : World)
    (hS : ShelfAt w s m ns vs) (hvl : vs.length ≤ 65536) (hr : ReqOk k sh) :
    Calls Tryz.prog 24 #[.pointer (some ⟨s, 0, none⟩), .agg #[.int .i64 rc, .int .i64 rm, .int .i64 k, .int .i64 sh, .int .i64 0, .int .i64 0, .bool false, .string ⟨#[]⟩, .bool across], .pointer none] w (ChoosePostN w ns vs rc rm k sh across) := by
  have HS : Hid (ShelfAt w s m ns vs) := hS
  have HRQ : Hid (ReqOk k sh) := hr
  obtain ⟨va, vc, v1, vrow⟩ := hS.visit
  have VR : Hid (RowAt w va (vs.map natV)) := vrow
  have lts := cell_lt v1
  simp only at lts
  clear hS hr vrow
  have HP : Hid (∀ e w', ChoosePostN w ns vs rc rm k sh across e w' → ChoosePostN w ns vs rc rm k sh across e w') := fun _ _ h => h
  have q23 : ∀ (w : World) (g n c : Nat), (binOp .eql 23 (.slice (some ⟨g, 0, none⟩) n c) (.slice none 0 0)).run Tryz.prog w = .ok (.bool false) w := fun w g n c => Lib.run_eql_slice_nil w _ _ (some _) n c 0 0 Tryz.underlying23
  go_enter Tryz.func24, Tryz.ntmps24
  have hb0 : Below w.heap.size w ((w.alloc (.cells #[.int .i64 rc, .int .i64 rm, .int .i64 k, .int .i64 sh, .int .i64 0, .int .i64 0, .bool false, .string ⟨#[]⟩, .bool across] 104)).alloc (.cells #[.int .i64 0, .slice none 0 0, .int .i64 0, .int .i64 0, .int .i64 0, .int .i64 0, .int .i64 0, .int .i64 0, .bool false, .string ⟨#[]⟩, .int .i64 0, .int .u64 0] 99)) := (below_alloc1 _ _).alloc (by simp) _
  have H0 : Hid (((w.alloc (.cells #[.int .i64 rc, .int .i64 rm, .int .i64 k, .int .i64 sh, .int .i64 0, .int .i64 0, .bool false, .string ⟨#[]⟩, .bool across] 104)).alloc (.cells #[.int .i64 0, .slice none 0 0, .int .i64 0, .int .i64 0, .int .i64 0, .int .i64 0, .int .i64 0, .int .i64 0, .bool false, .string ⟨#[]⟩, .int .i64 0, .int .u64 0] 99)).heap[w.heap.size]? = some (.cells #[.int .i64 rc, .int .i64 rm, .int .i64 k, .int .i64 sh, .int .i64 0, .int .i64 0, .bool false, .string ⟨#[]⟩, .bool across] 104)) := by
    show _ = _
    rw [heap_alloc_old _ _ (by simp), heap_alloc_new]
  have H1 : Hid (((w.alloc (.cells #[.int .i64 rc, .int .i64 rm, .int .i64 k, .int .i64 sh, .int .i64 0, .int .i64 0, .bool false, .string ⟨#[]⟩, .bool across] 104)).alloc (.cells #[.int .i64 0, .slice none 0 0, .int .i64 0, .int .i64 0, .int .i64 0, .int .i64 0, .int .i64 0, .int .i64 0, .bool false, .string ⟨#[]⟩, .int .i64 0, .int .u64 0] 99)).heap[w.heap.size + 1]? = some (.cells #[.int .i64 0, .slice none 0 0, .int .i64 0, .int .i64 0, .int .i64 0, .int .i64 0, .int .i64 0, .int .i64 0, .bool false, .string ⟨#[]⟩, .int .i64 0, .int .u64 0] 99)) := heap_alloc2_new w _ _
  go_wp2_with fail
  generalize hW : (w.alloc (.cells #[.int .i64 rc, .int .i64 rm, .int .i64 k, .int .i64 sh, .int .i64 0, .int .i64 0, .bool false, .string ⟨#[]⟩, .bool across] 104)).alloc (.cells #[.int .i64 0, .slice none 0 0, .int .i64 0, .int .i64 0, .int .i64 0, .int .i64 0, .int .i64 0, .int .i64 0, .bool false, .string ⟨#[]⟩, .int .i64 0, .int .u64 0] 99) = W at *
  clear hW
  have HNW : Hid (ShelfAt W s m ns vs) := HS.out.below hb0
  refine (decidingG s m rc rm k sh HRQ.out across W HNW.out.mixp HNW.out.mix).mono ?_
  rintro e W1 ⟨rfl, hb1⟩
  have l0 := hb0.size
  have hbA : Below w.heap.size w W1 := hb0.trans (hb1.mono l0)
  have H0' : Hid (W1.heap[w.heap.size]? = some (.cells #[.int .i64 rc, .int .i64 rm, .int .i64 k, .int .i64 sh, .int .i64 0, .int .i64 0, .bool false, .string ⟨#[]⟩, .bool across] 104)) := (hb1.block _ (heap_lt H0.out)).trans H0.out
  have H1' : Hid (W1.heap[w.heap.size + 1]? = some (.cells #[.int .i64 0, .slice none 0 0, .int .i64 0, .int .i64 0, .int .i64 0, .int .i64 0, .int .i64 0, .int .i64 0, .bool false, .string ⟨#[]⟩, .int .i64 0, .int .u64 0] 99)) := (hb1.block _ (heap_lt H1.out)).trans H1.out
  have l1 := heap_lt H1'.out
  clear hb1 hb0 H0 H1 HNW l0
  go_upto_region 3 with fail
  have hb2 : Below W1.heap.size W1 ((W1.alloc (.cells #[.int .i64 rc, .int .i64 rm, .int .i64 k, .int .i64 sh, .int .i64 0, .int .i64 0, .bool false, .string ⟨#[]⟩, .bool across, .int .i64 (-1), .bool false, .int .i64 (milG k sh)] 121)).alloc (.cells #[.int .i64 (-1), .int .u8 0, .int .i64 0, .slice none 0 0] 127)) := (below_alloc1 _ _).alloc (by simp) _
  have HQ : Hid (((W1.alloc (.cells #[.int .i64 rc, .int .i64 rm, .int .i64 k, .int .i64 sh, .int .i64 0, .int .i64 0, .bool false, .string ⟨#[]⟩, .bool across, .int .i64 (-1), .bool false, .int .i64 (milG k sh)] 121)).alloc (.cells #[.int .i64 (-1), .int .u8 0, .int .i64 0, .slice none 0 0] 127)).heap[W1.heap.size]? = some (.cells #[.int .i64 rc, .int .i64 rm, .int .i64 k, .int .i64 sh, .int .i64 0, .int .i64 0, .bool false, .string ⟨#[]⟩, .bool across, .int .i64 (-1), .bool false, .int .i64 (milG k sh)] 121)) := by
    show _ = _
    rw [heap_alloc_old _ _ (by simp), heap_alloc_new]
  have HBE : Hid (((W1.alloc (.cells #[.int .i64 rc, .int .i64 rm, .int .i64 k, .int .i64 sh, .int .i64 0, .int .i64 0, .bool false, .string ⟨#[]⟩, .bool across, .int .i64 (-1), .bool false, .int .i64 (milG k sh)] 121)).alloc (.cells #[.int .i64 (-1), .int .u8 0, .int .i64 0, .slice none 0 0] 127)).heap[W1.heap.size + 1]? = some (.cells #[.int .i64 (-1), .int .u8 0, .int .i64 0, .slice none 0 0] 127)) := heap_alloc2_new W1 _ _
  have hsz2 : ((W1.alloc (.cells #[.int .i64 rc, .int .i64 rm, .int .i64 k, .int .i64 sh, .int .i64 0, .int .i64 0, .bool false, .string ⟨#[]⟩, .bool across, .int .i64 (-1), .bool false, .int .i64 (milG k sh)] 121)).alloc (.cells #[.int .i64 (-1), .int .u8 0, .int .i64 0, .slice none 0 0] 127)).heap.size = W1.heap.size + 2 := by simp
  generalize hW2 : (W1.alloc (.cells #[.int .i64 rc, .int .i64 rm, .int .i64 k, .int .i64 sh, .int .i64 0, .int .i64 0, .bool false, .string ⟨#[]⟩, .bool across, .int .i64 (-1), .bool false, .int .i64 (milG k sh)] 121)).alloc (.cells #[.int .i64 (-1), .int .u8 0, .int .i64 0, .slice none 0 0] 127) = W2 at *
  clear hW2
  have hbB : Below w.heap.size w W2 := hbA.trans (hb2.mono hbA.size)
  have H0b : Hid (W2.heap[w.heap.size]? = some (.cells #[.int .i64 rc, .int .i64 rm, .int .i64 k, .int .i64 sh, .int .i64 0, .int .i64 0, .bool false, .string ⟨#[]⟩, .bool across] 104)) := (hb2.block _ (heap_lt H0'.out)).trans H0'.out
  have H1b : Hid (W2.heap[w.heap.size + 1]? = some (.cells #[.int .i64 0, .slice none 0 0, .int .i64 0, .int .i64 0, .int .i64 0, .int .i64 0, .int .i64 0, .int .i64 0, .bool false, .string ⟨#[]⟩, .int .i64 0, .int .u64 0] 99)) := (hb2.block _ (heap_lt H1'.out)).trans H1'.out
  have V1 : Hid (W2.cell? ⟨s, 3, none⟩ = some (.slice va vs.length vc)) := (hbB.cell (p := ⟨s, 3, none⟩) lts).trans v1
  clear hb2 hbA H0' H1' v1
  have hQlt : W1.heap.size < W2.heap.size := by omega
  go_wp2_with fail
  refine (recalled_nil s _ _ _ _ _ rfl W2 V1.out).mono ?_
  rintro e w' ⟨rfl, rfl⟩
  go_wp2_with fail
  go_loopw [26] (fun iv wr => ∃ t : Nat, t ≤ vs.length ∧ iv = .int .i64 t ∧ Hid (RoundN W2 wr (W1.heap.size + 1) ns vs rc rm k across t)) (fun iv _ => vs.length - (intOf iv).toNat)
  case atStart => exact ⟨0, Nat.zero_le _, rfl, Below.refl _ _, Nat.le_refl _, .inl ⟨by intro u hu; simp at hu, HBE.out⟩⟩
  case round =>
    obtain ⟨t, ht, rfl, hR⟩ := hrel
    by_cases htl : t < vs.length
    · obtain ⟨v, hvt'⟩ : ∃ v, vs[t]? = some v := ⟨vs[t], List.getElem?_eq_getElem htl⟩
      have hvt : Hid (vs[t]? = some v) := hvt'
      have hbw : Below w.heap.size w wr := hbB.trans (hR.out.1.mono (by omega))
      have HSr : Hid (ShelfAt wr s m ns vs) := HS.out.below hbw
      obtain ⟨nd, hnd'⟩ : ∃ nd, ns[v]? = some nd := ⟨ns[v]'(HS.out.inv v (List.mem_of_getElem? hvt')), List.getElem?_eq_getElem _⟩
      have hnd : Hid (ns[v]? = some nd) := hnd'
      obtain ⟨vg, vo, hva, hvc⟩ := VR.out t (natV v) (by rw [List.getElem?_map, hvt']; rfl)
      subst hva
      have vcell : wr.cell? ⟨vg, vo + t, none⟩ = some (.int .i64 (v : Nat)) := (hbw.cell (cell_lt hvc)).trans hvc
      obtain ⟨b, fr, hNA, hFA, hFr, hFl⟩ := HSr.out.node v nd hnd'
      have HFl : Hid (fr.length ≤ 65536) := hFl
      have HNA : Hid (NodeAt wr s m v b) := hNA
      have HFA : Hid (FreshAt wr b nd.1 nd.2.1 nd.2.2 fr) := hFA
      have HFr : Hid (FrOf (List.replicate nd.2.2 (0, true)) fr) := hFr
      have HBD : Hid (0 ≤ nd.1 ∧ nd.1 ≤ 9223372036854775807 ∧ 0 ≤ nd.2.1 ∧ nd.2.1 ≤ 9223372036854775807 ∧ nd.2.2 ≤ 65536) := HS.out.bound nd (List.mem_of_getElem? hnd')
      have n14 := hFA.books.c14
      obtain ⟨ng, no, n, cap, n1, n2, n3⟩ := hNA.nodes
      clear hvt' hnd' hvc hNA hFA hFr hFl
      have HQr : Hid (wr.heap[W1.heap.size]? = some (.cells #[.int .i64 rc, .int .i64 rm, .int .i64 k, .int .i64 sh, .int .i64 0, .int .i64 0, .bool false, .string ⟨#[]⟩, .bool across, .int .i64 (-1), .bool false, .int .i64 (milG k sh)] 121)) := (hR.out.1.block _ (by omega)).trans HQ.out
      go_wp2_with fail
      refine (least_nil v 0 wr).mono ?_
      rintro e w' ⟨rfl, rfl⟩
      obtain ⟨hrb, hrs, ⟨hno', hbe'⟩ | ⟨u0, v0, nd0, g0, cap0, L0, ht0, hv0', hnd0', hfit0', hno0', hbe', how0', hgr0'⟩⟩ := hR.out
      · have hno : Hid _ := hno'
        have HBEr : Hid (wr.heap[W1.heap.size + 1]? = some (.cells #[.int .i64 (-1), .int .u8 0, .int .i64 0, .slice none 0 0] 127)) := hbe'
        clear hno' hbe' hR
        go_wp2_with fail
        refine (try_firstG s m v b W1.heap.size (W1.heap.size + 1) nd.1 nd.2.1 rc rm k sh HRQ.out across nd.2.2 fr wr HNA.out HFA.out HQr.out (blk_c HBEr.out (Below.refl _ _) (i := 0) rfl) HBD.out.1 HBD.out.2.1 HBD.out.2.2.1 HBD.out.2.2.2.1 HBD.out.2.2.2.2 HFl.out HFr.out).mono ?_
        rintro e W3 ⟨hb3, ⟨hfit, g, cap', L, rfl, hown, hgr⟩ | ⟨hfit, rfl⟩⟩
        · have HFI : Hid (FitN rc rm k nd) := (fits_fresh HFr.out _ _ _ _ _ _).1 hfit
          have HOW : Hid _ := hown
          have HGR : Hid _ := hgr
          clear hfit hown hgr n14 n1 n2 n3 vcell
          have l3 := hb3.size
          go_wp2_with fail
          have hb4 : Below W3.heap.size W3 (W3.alloc (.cells #[.int .u8 2, .int .i64 0] 125)) := below_alloc1 _ _
          have HT4 : Hid ((W3.alloc (.cells #[.int .u8 2, .int .i64 0] 125)).heap[W3.heap.size]? = some (.cells #[.int .u8 2, .int .i64 0] 125)) := heap_alloc_new W3 _
          generalize hW4 : W3.alloc (.cells #[.int .u8 2, .int .i64 0] 125) = W4 at *
          clear hW4
          refine (keep_nil v _ _ 0 W4).mono ?_
          rintro e W5 ⟨rfl, hb5⟩
          have hb35 : Below W3.heap.size W3 W5 := hb4.trans (hb5.mono hb4.size)
          have HT5 : Hid (W5.heap[W3.heap.size]? = some (.cells #[.int .u8 2, .int .i64 0] 125)) := (hb5.block _ (heap_lt HT4.out)).trans HT4.out
          have t0 := blk_c HT5.out (Below.refl _ _) (i := 0) rfl
          have t1 := blk_c HT5.out (Below.refl _ _) (i := 1) rfl
          have hb25 : Below wr.heap.size wr W5 := hb3.trans (hb35.mono l3)
          have HBE5 : Hid (W5.heap[W1.heap.size + 1]? = some (.cells #[.int .i64 (-1), .int .u8 0, .int .i64 0, .slice none 0 0] 127)) := (hb25.block _ (heap_lt HBEr.out)).trans HBEr.out
          clear hb4 hb5 HT4
          go_wp2_with fail
          refine (beaten_first (W1.heap.size + 1) v 0 (-1) W5 (blk_c HBE5.out (Below.refl _ _) (i := 0) rfl) (by omega)).mono ?_
          rintro e W6 ⟨rfl, hb6⟩
          have HT6 : Hid (W6.heap[W3.heap.size]? = some (.cells #[.int .u8 2, .int .i64 0] 125)) := (hb6.block _ (heap_lt HT5.out)).trans HT5.out
          have HBE6 : Hid (W6.heap[W1.heap.size + 1]? = some (.cells #[.int .i64 (-1), .int .u8 0, .int .i64 0, .slice none 0 0] 127)) := (hb6.block _ (heap_lt HBE5.out)).trans HBE5.out
          have hb26 : Below wr.heap.size wr W6 := hb25.trans (hb6.mono hb25.size)
          have hb36 : Below W3.heap.size W3 W6 := hb35.trans (hb6.mono hb35.size)
          clear hb6 hb25 hb35 HT5 HBE5 t0 t1
          have t0 := blk_c HT6.out (Below.refl _ _) (i := 0) rfl
          have t1 := blk_c HT6.out (Below.refl _ _) (i := 1) rfl
          go_wp2_with (refine wpList_store_blk2 rfl 127 _ _ rfl (W1.heap.size + 1) _ rfl rfl 127 _ HBE6.out (by kernel_rfl) rfl (by simp [Value.oneCell']) ?_; intro W7 hw7 ho7; have HW7 : Hid _ := hw7; have HO7 : Hid _ := ho7; clear hw7 ho7; have t0' := blk_c (W := W7) ((HO7.out.1 _ (by omega)).trans HT6.out) (Below.refl _ _) (i := 0) rfl)
          have HRR : Hid (RoundN W2 W7 (W1.heap.size + 1) ns vs rc rm k across (t + 1)) := by
            refine ⟨(hrb.trans ((hb26.mono (by omega)).trans HO7.out.2.2)), by have := HO7.out.2.1; have := hb26.size; omega, .inr ⟨t, v, nd, g, cap', L, Nat.lt_succ_self _, hvt.out, hnd.out, HFI.out, hno.out, HW7.out, ?_, HGR.out⟩⟩
            refine owns_low (ownsRow_same (owns_below HOW.out hb36) (fun q hq => HO7.out.1 q ?_)) (by omega)
            have := owns_block HOW.out q hq
            omega
          go_roundw
          case rel => first | exact ⟨t + 1, by omega, by go_num, HRR.out⟩ | ((repeat apply Exists.intro); exact ⟨⟨t + 1, by omega, by go_num, HRR.out⟩, rfl⟩)
          case measure => simp [intOf]; omega
        · have HFI : Hid (¬ FitN rc rm k nd) := fun h => hfit ((fits_fresh HFr.out _ _ _ _ _ _).2 h)
          clear hfit n14 n1 n2 n3 vcell
          have l3 := hb3.size
          go_wp2_with fail
          have hb4 : Below W3.heap.size W3 (W3.alloc (.cells #[.int .u8 1, .int .i64 0] 125)) := below_alloc1 _ _
          have HT4 : Hid ((W3.alloc (.cells #[.int .u8 1, .int .i64 0] 125)).heap[W3.heap.size]? = some (.cells #[.int .u8 1, .int .i64 0] 125)) := heap_alloc_new W3 _
          generalize hW4 : W3.alloc (.cells #[.int .u8 1, .int .i64 0] 125) = W4 at *
          clear hW4
          refine (keep_nil v _ _ 0 W4).mono ?_
          rintro e W5 ⟨rfl, hb5⟩
          have hb35 : Below W3.heap.size W3 W5 := hb4.trans (hb5.mono hb4.size)
          have HT5 : Hid (W5.heap[W3.heap.size]? = some (.cells #[.int .u8 1, .int .i64 0] 125)) := (hb5.block _ (heap_lt HT4.out)).trans HT4.out
          have t0 := blk_c HT5.out (Below.refl _ _) (i := 0) rfl
          have t1 := blk_c HT5.out (Below.refl _ _) (i := 1) rfl
          have hb25 : Below wr.heap.size wr W5 := hb3.trans (hb35.mono l3)
          clear hb4 hb5 HT4
          go_wp2_with fail
          refine (beaten_no (W1.heap.size + 1) v 1 0 W5 (by decide) (by decide)).mono ?_
          rintro e W6 ⟨rfl, hb6⟩
          have HT6 : Hid (W6.heap[W3.heap.size]? = some (.cells #[.int .u8 1, .int .i64 0] 125)) := (hb6.block _ (heap_lt HT5.out)).trans HT5.out
          have hb26 : Below wr.heap.size wr W6 := hb25.trans (hb6.mono hb25.size)
          clear hb6 hb25 hb35 HT5 t0 t1
          have t0 := blk_c HT6.out (Below.refl _ _) (i := 0) rfl
          have HRR : Hid (RoundN W2 W6 (W1.heap.size + 1) ns vs rc rm k across (t + 1)) :=
            ⟨hrb.trans (hb26.mono (by omega)), by have := hb26.size; omega, .inl ⟨no_next hvt.out hnd.out hno.out HFI.out, (hb26.block _ (heap_lt HBEr.out)).trans HBEr.out⟩⟩
          go_wp2_with fail
          go_roundw
          case rel => first | exact ⟨t + 1, by omega, by go_num, HRR.out⟩ | ((repeat apply Exists.intro); exact ⟨⟨t + 1, by omega, by go_num, HRR.out⟩, rfl⟩)
          case measure => simp [intOf]; omega
      · have hv0 : Hid _ := hv0'
        have hnd0 : Hid _ := hnd0'
        have hfit0 : Hid _ := hfit0'
        have hno0 : Hid _ := hno0'
        have how0 : Hid _ := how0'
        have hgr0 : Hid _ := hgr0'
        have HBEr : Hid (wr.heap[W1.heap.size + 1]? = some (.cells #[.int .i64 (v0 : Nat), .int .u8 2, .int .i64 0, .slice (some ⟨g0, 0, none⟩) k cap0] 127)) := hbe'
        have hle : v0 ≤ v := Nat.le_of_lt (HS.out.sorted' hv0.out hvt.out ht0)
        clear hv0' hnd0' hfit0' hno0' hbe' how0' hgr0' hR
        go_wp2_with fail
        refine (try_late s m v b W1.heap.size (W1.heap.size + 1) v0 nd.1 nd.2.1 rc rm k sh (milG k sh) across _ fr wr HNA.out HFA.out.books HQr.out (blk_c HBEr.out (Below.refl _ _) (i := 0) rfl) (blk_c HBEr.out (Below.refl _ _) (i := 1) rfl) (blk_c HBEr.out (Below.refl _ _) (i := 2) rfl) (by omega) (by omega)).mono ?_
        rintro e W3 ⟨rfl, hb3⟩
        clear n14 n1 n2 n3 vcell
        have l3 := hb3.size
        go_wp2_with fail
        have hb4 : Below W3.heap.size W3 (W3.alloc (.cells #[.int .u8 3, .int .i64 0] 125)) := below_alloc1 _ _
        have HT4 : Hid ((W3.alloc (.cells #[.int .u8 3, .int .i64 0] 125)).heap[W3.heap.size]? = some (.cells #[.int .u8 3, .int .i64 0] 125)) := heap_alloc_new W3 _
        generalize hW4 : W3.alloc (.cells #[.int .u8 3, .int .i64 0] 125) = W4 at *
        clear hW4
        refine (keep_nil v _ _ 0 W4).mono ?_
        rintro e W5 ⟨rfl, hb5⟩
        have hb35 : Below W3.heap.size W3 W5 := hb4.trans (hb5.mono hb4.size)
        have HT5 : Hid (W5.heap[W3.heap.size]? = some (.cells #[.int .u8 3, .int .i64 0] 125)) := (hb5.block _ (heap_lt HT4.out)).trans HT4.out
        have t0 := blk_c HT5.out (Below.refl _ _) (i := 0) rfl
        have t1 := blk_c HT5.out (Below.refl _ _) (i := 1) rfl
        have hb25 : Below wr.heap.size wr W5 := hb3.trans (hb35.mono l3)
        clear hb4 hb5 HT4
        go_wp2_with fail
        refine (beaten_no (W1.heap.size + 1) v 3 0 W5 (by decide) (by decide)).mono ?_
        rintro e W6 ⟨rfl, hb6⟩
        have HT6 : Hid (W6.heap[W3.heap.size]? = some (.cells #[.int .u8 3, .int .i64 0] 125)) := (hb6.block _ (heap_lt HT5.out)).trans HT5.out
        have hb26 : Below wr.heap.size wr W6 := hb25.trans (hb6.mono hb25.size)
        clear hb6 hb25 hb35 HT5 t0 t1
        have t0 := blk_c HT6.out (Below.refl _ _) (i := 0) rfl
        have HRR : Hid (RoundN W2 W6 (W1.heap.size + 1) ns vs rc rm k across (t + 1)) :=
          ⟨hrb.trans (hb26.mono (by omega)), by have := hb26.size; omega, .inr ⟨u0, v0, nd0, g0, cap0, L0, by omega, hv0.out, hnd0.out, hfit0.out, hno0.out, (hb26.block _ (heap_lt HBEr.out)).trans HBEr.out, owns_below how0.out hb26, hgr0.out⟩⟩
        go_wp2_with fail
        go_roundw
        case rel => first | exact ⟨t + 1, by omega, by go_num, HRR.out⟩ | ((repeat apply Exists.intro); exact ⟨⟨t + 1, by omega, by go_num, HRR.out⟩, rfl⟩)
        case measure => simp [intOf]; omega
    · obtain rfl : t = vs.length := by omega
      have hbw : Below w.heap.size w wr := hbB.trans (hR.out.1.mono (by omega))
      have H0r : Hid (wr.heap[w.heap.size]? = some (.cells #[.int .i64 rc, .int .i64 rm, .int .i64 k, .int .i64 sh, .int .i64 0, .int .i64 0, .bool false, .string ⟨#[]⟩, .bool across] 104)) := (hR.out.1.block _ (by omega)).trans H0b.out
      have H1r : Hid (wr.heap[w.heap.size + 1]? = some (.cells #[.int .i64 0, .slice none 0 0, .int .i64 0, .int .i64 0, .int .i64 0, .int .i64 0, .int .i64 0, .int .i64 0, .bool false, .string ⟨#[]⟩, .int .i64 0, .int .u64 0] 99)) := (hR.out.1.block _ (by omega)).trans H1b.out
      have HNr : Hid (ShelfAt wr s m ns vs) := HS.out.below hbw
      obtain ⟨hbr, hsr, ⟨hno, hbst⟩ | ⟨t0, v, nd, g, cap', L, ht0, hvt, hnd, hfit, hno, hbst, hown, hgr⟩⟩ := hR.out
      · have HFI : Hid (NoneN ns vs rc rm k) := by have := hno; rw [List.take_length] at this; exact this
        have b0 := blk_c hbst (Below.refl _ _) (i := 0) rfl
        clear hno hbst hR
        go_wp2_with (refine wpList_store_blk2 rfl 99 _ _ rfl (w.heap.size + 1) _ rfl rfl 99 _ H1r.out (by kernel_rfl) rfl (by simp [Value.oneCell']) ?_; intro W6 hw6 ho6; have HW6 : Hid _ := hw6; clear hw6)
        refine bodyPost_ret (results_cell_slot Tryz.results24 _ W6 _ 99 _ (0, 0) _ rfl HW6.out Tryz.underlying99 rfl (by kernel_rfl)) rfl ⟨?_, .inr ⟨HFI.out, rfl⟩⟩
        exact hbw.trans (ho6.2.2.mono (Nat.le_succ _))
      · have HFI : Hid (HitN ns vs rc rm k v nd) := ⟨t0, hvt, hnd, hfit, hno⟩
        clear hvt hfit hno ht0
        have HOW : Hid _ := hown
        have HGR : Hid _ := hgr
        have HBS : Hid _ := hbst
        clear hown hgr hR hbst
        have b0 := blk_c HBS.out (Below.refl _ _) (i := 0) rfl
        have b2 := blk_c HBS.out (Below.refl _ _) (i := 2) rfl
        have b3 := blk_c HBS.out (Below.refl _ _) (i := 3) rfl
        obtain ⟨b, fr, hNA, hFA, -⟩ := HNr.out.node v nd hnd
        have HBr : Hid (FreshAt wr b nd.1 nd.2.1 nd.2.2 fr) := hFA
        obtain ⟨ng, no, n, cap, n1, n2, n3⟩ := hNA.nodes
        have hvneg : decide ((v : Int) < 0) = false := by simp
        clear hNA hFA hnd
        have x0 := blk_c H0r.out (Below.refl _ _) (i := 0) rfl
        have x1 := blk_c H0r.out (Below.refl _ _) (i := 1) rfl
        have x2 := blk_c H0r.out (Below.refl _ _) (i := 2) rfl
        have x3 := blk_c H0r.out (Below.refl _ _) (i := 3) rfl
        have x4 := blk_c H0r.out (Below.refl _ _) (i := 4) rfl
        have x5 := blk_c H0r.out (Below.refl _ _) (i := 5) rfl
        have x6 := blk_c H0r.out (Below.refl _ _) (i := 6) rfl
        have x7 := blk_c H0r.out (Below.refl _ _) (i := 7) rfl
        go_wp2_with fail
        go_quiet (fail)
        go_wp2_with fail
        refine (resolve b v _ _ _ _ rfl rc rm k sh _).mono ?_
        rintro e W3 ⟨rfl, hb3⟩
        have hb3' : Below wr.heap.size wr W3 := (below_drewN (Below.refl _ _) _).trans (hb3.mono (Nat.le_refl _))
        have l2 := hbw.size
        have hbw3 : Below w.heap.size w W3 := hbw.trans (hb3'.mono l2)
        have H1s : Hid (W3.heap[w.heap.size + 1]? = some (.cells #[.int .i64 0, .slice none 0 0, .int .i64 0, .int .i64 0, .int .i64 0, .int .i64 0, .int .i64 0, .int .i64 0, .bool false, .string ⟨#[]⟩, .int .i64 0, .int .u64 0] 99)) := (hb3'.block _ (heap_lt H1r.out)).trans H1r.out
        have HBS3 : Hid _ := (hb3'.block _ (heap_lt HBS.out)).trans HBS.out
        have HB3 : Hid (FreshAt W3 b nd.1 nd.2.1 nd.2.2 fr) := HBr.out.below hb3'
        have HOW3 : Hid _ := owns_below HOW.out hb3'
        clear x0 x1 x2 x3 x4 x5 x6 x7 b0 b2 b3 n1 n2 n3 hb3 hb3' HOW HBS HBr HNr H0r H1r
        go_upto_region 19 with fail
        have hb4 : Below W3.heap.size W3 (W3.alloc (.cells #[.int .i64 (v : Nat), .slice (some ⟨g, 0, none⟩) k cap', .int .i64 rc, .int .i64 rm, .int .i64 k, .int .i64 sh, .int .i64 0, .int .i64 0, .bool false, .string ⟨#[]⟩] 36)) := below_alloc1 _ _
        have HG4 : Hid ((W3.alloc (.cells #[.int .i64 (v : Nat), .slice (some ⟨g, 0, none⟩) k cap', .int .i64 rc, .int .i64 rm, .int .i64 k, .int .i64 sh, .int .i64 0, .int .i64 0, .bool false, .string ⟨#[]⟩] 36)).heap[W3.heap.size]? = some (.cells #[.int .i64 (v : Nat), .slice (some ⟨g, 0, none⟩) k cap', .int .i64 rc, .int .i64 rm, .int .i64 k, .int .i64 sh, .int .i64 0, .int .i64 0, .bool false, .string ⟨#[]⟩] 36)) := heap_alloc_new W3 _
        generalize hW4 : W3.alloc (.cells #[.int .i64 (v : Nat), .slice (some ⟨g, 0, none⟩) k cap', .int .i64 rc, .int .i64 rm, .int .i64 k, .int .i64 sh, .int .i64 0, .int .i64 0, .bool false, .string ⟨#[]⟩] 36) = W4 at *
        clear hW4
        have H1t : Hid (W4.heap[w.heap.size + 1]? = some (.cells #[.int .i64 0, .slice none 0 0, .int .i64 0, .int .i64 0, .int .i64 0, .int .i64 0, .int .i64 0, .int .i64 0, .bool false, .string ⟨#[]⟩, .int .i64 0, .int .u64 0] 99)) := (hb4.block _ (heap_lt H1s.out)).trans H1s.out
        have HBS4 : Hid _ := (hb4.block _ (heap_lt HBS3.out)).trans HBS3.out
        have HOW4 : Hid _ := owns_below HOW3.out hb4
        have hbw4 : Below w.heap.size w W4 := hbw3.trans (hb4.mono hbw3.size)
        have y2 := blk_r HBS4.out (i := 2) rfl
        have y14 := cell_regrown (HB3.out.below hb4).books.c14
        have g0 := blk_r HG4.out (i := 0) rfl
        have g1 := blk_r HG4.out (i := 1) rfl
        have g2 := blk_r HG4.out (i := 2) rfl
        have g3 := blk_r HG4.out (i := 3) rfl
        have g4 := blk_r HG4.out (i := 4) rfl
        have g5 := blk_r HG4.out (i := 5) rfl
        have g6 := blk_r HG4.out (i := 6) rfl
        have g7 := blk_r HG4.out (i := 7) rfl
        have g8 := blk_r HG4.out (i := 8) rfl
        have g9 := blk_r HG4.out (i := 9) rfl
        clear hb4 hbw3
        refine wp_region_quiet_list 9 (by kernel_rfl) (by kernel_rfl) (by kernel_rfl) ?_
        simp only [List.take_succ_cons, List.take_zero, List.drop_succ_cons, List.drop_zero]
        repeat (go_big_quiet_step (fail))
        refine wpQuiet_nil ?_
        intro W5 hb5
        clear g0 g1 g2 g3 g4 g5 g6 g7 g8 g9 y2 y14
        have H1u : Hid (W5.heap[w.heap.size + 1]? = some (.cells #[.int .i64 0, .slice none 0 0, .int .i64 0, .int .i64 0, .int .i64 0, .int .i64 0, .int .i64 0, .int .i64 0, .bool false, .string ⟨#[]⟩, .int .i64 0, .int .u64 0] 99)) := (hb5.block _ (heap_lt H1t.out)).trans H1t.out
        refine wpList_store_blk2 rfl 99 _ _ rfl (w.heap.size + 1) _ rfl rfl 99 _ H1u.out (by kernel_rfl) rfl (by simp [Value.oneCell']) ?_
        intro W6 hw6 ho6
        have HW6 : Hid _ := hw6
        clear hw6
        go_wp2_with fail
        refine bodyPost_ret (results_cell_slot Tryz.results24 _ W6 _ 99 _ (0, 0) _ rfl HW6.out Tryz.underlying99 rfl (by kernel_rfl)) rfl ⟨?_, .inl ⟨v, nd, HFI.out, g, cap', L, rfl, ?_, HGR.out⟩⟩
        · exact (hbw4.trans (hb5.mono hbw4.size)).trans (ho6.2.2.mono (Nat.le_succ _))
        · refine owns_low (ownsRow_same (owns_below HOW4.out hb5) (fun q hq => ho6.1 q ?_)) (by omega)
          have := owns_block HOW4.out q hq
          omega

end Go.Proofs.Qxb6612460aGreatFmt
