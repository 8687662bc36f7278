import Derived.Test.Qxb6612460aGreatFmtChooseN
import Derived.Test.Qxb6612460aGreatFmtZZ
namespace Go.Proofs.Qxb6612460aGreatFmt
open Go.RowKit Go.Sort
attribute [local go_sem] Option.isNone_none Option.isNone_some
attribute [local go_sem] sUpon mUpon
attribute [local go_sem] Mix.isVal Mix.makes

theorem hit_not_none {ns : List (Int × Int × Nat)} {vs : List Nat} {rc rm : Int} {k v : Nat} {nd : Int × Int × Nat} (h : HitN ns vs rc rm k v nd) : ¬ NoneN ns vs rc rm k := by
  obtain ⟨t0, h1, h2, h3, -⟩ := h
  exact fun hn => hn v (List.mem_of_getElem? h1) nd h2 h3
theorem mem_take_of {vs : List Nat} {i j u : Nat} (h : vs[i]? = some u) (hij : i < j) : u ∈ vs.take j := by
  refine List.mem_of_getElem? (i := i) ?_
  rw [List.getElem?_take, if_pos hij, h]
theorem hit_same {ns : List (Int × Int × Nat)} {vs : List Nat} {rc rm : Int} {k v v' : Nat} {nd nd' : Int × Int × Nat} (h : HitN ns vs rc rm k v nd) (h' : HitN ns vs rc rm k v' nd') : v = v' ∧ nd = nd' := by
  obtain ⟨t0, h1, h2, h3, h4⟩ := h
  obtain ⟨t1, k1, k2, k3, k4⟩ := h'
  have e : t0 = t1 := by
    rcases Nat.lt_trichotomy t0 t1 with hl | hl | hl
    · exact absurd h3 (k4 v (mem_take_of h1 hl) nd h2)
    · exact hl
    · exact absurd k3 (h4 v' (mem_take_of k1 hl) nd' k2)
  subst e
  rw [h1] at k1
  obtain rfl := Option.some.inj k1
  rw [h2] at k2
  exact ⟨rfl, Option.some.inj k2⟩
theorem hit_or_none (ns : List (Int × Int × Nat)) (vs : List Nat) (rc rm : Int) (k : Nat) : (∃ v nd, HitN ns vs rc rm k v nd) ∨ NoneN ns vs rc rm k := by
  have key : ∀ t, t ≤ vs.length → (∃ v nd, HitN ns vs rc rm k v nd) ∨ NoneN ns (vs.take t) rc rm k := by
    intro t
    induction t with
    | zero => exact fun _ => .inr (fun u hu => by simp at hu)
    | succ t ih =>
      intro ht
      rcases ih (by omega) with h | h
      · exact .inl h
      · have hv : vs[t]? = some (vs[t]'(by omega)) := List.getElem?_eq_getElem _
        cases hn : ns[vs[t]'(by omega)]? with
        | none =>
          refine .inr (fun u hu n hun => ?_)
          rw [List.take_succ_eq_append_getElem (by omega), List.mem_append, List.mem_singleton] at hu
          rcases hu with hu | rfl
          · exact h u hu n hun
          · rw [hn] at hun; cases hun
        | some nd =>
          rcases Classical.em (FitN rc rm k nd) with hf | hf
          · exact .inl ⟨_, nd, t, hv, hn, hf, h⟩
          · exact .inr (no_next hv hn h hf)
  have := key vs.length (Nat.le_refl _)
  rwa [List.take_length] at this

def grantVN (node : Int) (ids : Value) (cpu mem g sh : Int) : Value := .agg #[.int .i64 node, ids, .int .i64 cpu, .int .i64 mem, .int .i64 g, .int .i64 sh, .int .i64 0, .int .i64 0, .bool false, .string ⟨#[]⟩]
def ZZPostN (w : World) (ns : List (Int × Int × Nat)) (vs : List Nat) (rc rm : Int) (k : Nat) (sh : Int) (across : Bool) (e : Ending) (w' : World) : Prop :=
  Below w.heap.size w w' ∧
  ((∃ (v : Nat) (nd : Int × Int × Nat), HitN ns vs rc rm k v nd ∧ ∃ (g cap : Nat) (L : List Nat), e = .returned (.tuple #[grantVN v (.slice (some ⟨g, 0, none⟩) k cap) rc rm k sh, .int .i64 0, .bool true]) ∧ w'.ownsRow w.heap.size 3 1 (.slice (some ⟨g, 0, none⟩) k cap) k (L.map natV) ∧ GrantedIds (List.replicate nd.2.2 (0, true)) k (!across) L) ∨
   (NoneN ns vs rc rm k ∧ e = .returned (.tuple #[grantVN 0 (.slice none 0 0) 0 0 0 0, .int .i64 0, .bool false])))
def DecAtN (B v : Nat) (ps : List (Nat × Bool)) (rc rm : Int) (k : Nat) (sh : Int) (one : Bool) (u : Value) (W : World) : Prop :=
  ∃ (g cap : Nat) (L : List Nat), u = .tuple #[decVN v (.slice (some ⟨g, 0, none⟩) k cap) rc rm k sh, .bool true] ∧ W.ownsRow B 3 1 (.slice (some ⟨g, 0, none⟩) k cap) k (L.map natV) ∧ GrantedIds ps k one L
theorem decAtN_lasts (B v : Nat) (ps : List (Nat × Bool)) (rc rm : Int) (k : Nat) (sh : Int) (one : Bool) (u : Value) : Lasts (DecAtN B v ps rc rm k sh one u) := by
  rintro W W' hb ⟨g, cap, L, h1, h2, h3⟩
  exact ⟨g, cap, L, h1, owns_below h2 hb, h3⟩
/-- Behind the store of the decision. -/
def AfterDecN (w : World) (g9 : Nat) (node : Int) (ids : Value) (rc rm k sh : Int) (R : World → Prop) (W2 : World) : Prop :=
  Below w.heap.size w W2 ∧ W2.heap[g9]? = some (.cells #[.int .i64 node, ids, .int .i64 rc, .int .i64 rm, .int .i64 k, .int .i64 sh, .int .i64 0, .int .i64 0, .bool false, .string ⟨#[]⟩, .int .i64 0, .int .u64 0] 99 (0, 0)) ∧ W2.heap[w.heap.size + 1]? = some (.cells #[.int .i64 0, .slice none 0 0, .int .i64 0, .int .i64 0, .int .i64 0, .int .i64 0, .int .i64 0, .int .i64 0, .bool false, .string ⟨#[]⟩] 36) ∧ R W2

set_option maxRecDepth 100000 in
set_option maxHeartbeats 4000000 in
theorem zzChooseN (l s m : Nat) (cs : Array Value) (ns : List (Int × Int × Nat)) (vs : List Nat) (rc rm : Int) (k : Nat) (sh : Int) (across : Bool) (w : World)
    (hl : w.cell? ⟨l, 2, none⟩ = some (.pointer (some ⟨s, 0, none⟩))) (hs : w.heap[s]? = some (.cells cs 58 (0, 0))) (hcs : cs.size = 4)
    (hN : ShelfAt w s m ns vs) (hvl : vs.length ≤ 65536) (hr : ReqOk k sh) :
    Calls Tryz.prog 11 #[.pointer (some ⟨l, 0, none⟩), reqV rc rm k sh, .bool across] w (ZZPostN w ns vs rc rm k sh across) := by
  unfold reqV
  go_enter Tryz.func11, Tryz.ntmps11
  have hb0 : Below w.heap.size w ((w.alloc (.cells #[.int .i64 rc, .int .i64 rm, .int .i64 k, .int .i64 sh, .int .i64 0, .int .i64 0, .bool false, .string ⟨#[]⟩] 34)).alloc (.cells #[.int .i64 0, .slice none 0 0, .int .i64 0, .int .i64 0, .int .i64 0, .int .i64 0, .int .i64 0, .int .i64 0, .bool false, .string ⟨#[]⟩] 36)) := (below_alloc1 _ _).alloc (by simp) _
  have H0 : Hid (((w.alloc (.cells #[.int .i64 rc, .int .i64 rm, .int .i64 k, .int .i64 sh, .int .i64 0, .int .i64 0, .bool false, .string ⟨#[]⟩] 34)).alloc (.cells #[.int .i64 0, .slice none 0 0, .int .i64 0, .int .i64 0, .int .i64 0, .int .i64 0, .int .i64 0, .int .i64 0, .bool false, .string ⟨#[]⟩] 36)).heap[w.heap.size]? = some (.cells #[.int .i64 rc, .int .i64 rm, .int .i64 k, .int .i64 sh, .int .i64 0, .int .i64 0, .bool false, .string ⟨#[]⟩] 34)) := by
    show _ = _
    rw [heap_alloc_old _ _ (by simp), heap_alloc_new]
  have H1 : Hid (((w.alloc (.cells #[.int .i64 rc, .int .i64 rm, .int .i64 k, .int .i64 sh, .int .i64 0, .int .i64 0, .bool false, .string ⟨#[]⟩] 34)).alloc (.cells #[.int .i64 0, .slice none 0 0, .int .i64 0, .int .i64 0, .int .i64 0, .int .i64 0, .int .i64 0, .int .i64 0, .bool false, .string ⟨#[]⟩] 36)).heap[w.heap.size + 1]? = some (.cells #[.int .i64 0, .slice none 0 0, .int .i64 0, .int .i64 0, .int .i64 0, .int .i64 0, .int .i64 0, .int .i64 0, .bool false, .string ⟨#[]⟩] 36)) := heap_alloc2_new w _ _
  have HL : Hid (((w.alloc (.cells #[.int .i64 rc, .int .i64 rm, .int .i64 k, .int .i64 sh, .int .i64 0, .int .i64 0, .bool false, .string ⟨#[]⟩] 34)).alloc (.cells #[.int .i64 0, .slice none 0 0, .int .i64 0, .int .i64 0, .int .i64 0, .int .i64 0, .int .i64 0, .int .i64 0, .bool false, .string ⟨#[]⟩] 36)).cell? ⟨l, 2, none⟩ = some (.pointer (some ⟨s, 0, none⟩))) := (hb0.cell (cell_lt hl)).trans hl
  have HS : Hid (((w.alloc (.cells #[.int .i64 rc, .int .i64 rm, .int .i64 k, .int .i64 sh, .int .i64 0, .int .i64 0, .bool false, .string ⟨#[]⟩] 34)).alloc (.cells #[.int .i64 0, .slice none 0 0, .int .i64 0, .int .i64 0, .int .i64 0, .int .i64 0, .int .i64 0, .int .i64 0, .bool false, .string ⟨#[]⟩] 36)).heap[s]? = some (.cells cs 58 (0, 0))) := (hb0.block s (heap_lt hs)).trans hs
  have HN : Hid (ShelfAt ((w.alloc (.cells #[.int .i64 rc, .int .i64 rm, .int .i64 k, .int .i64 sh, .int .i64 0, .int .i64 0, .bool false, .string ⟨#[]⟩] 34)).alloc (.cells #[.int .i64 0, .slice none 0 0, .int .i64 0, .int .i64 0, .int .i64 0, .int .i64 0, .int .i64 0, .int .i64 0, .bool false, .string ⟨#[]⟩] 36)) s m ns vs) := hN.below hb0
  go_upto_region 1 with fail
  generalize hW : ((w.alloc (.cells #[.int .i64 rc, .int .i64 rm, .int .i64 k, .int .i64 sh, .int .i64 0, .int .i64 0, .bool false, .string ⟨#[]⟩] 34)).alloc (.cells #[.int .i64 0, .slice none 0 0, .int .i64 0, .int .i64 0, .int .i64 0, .int .i64 0, .int .i64 0, .int .i64 0, .bool false, .string ⟨#[]⟩] 36)) = W at *
  clear hW hl hs hN
  have HRQ : Hid (ReqOk k sh) := hr
  have q0 := blk_r H0.out (i := 0) rfl
  have q1 := blk_r H0.out (i := 1) rfl
  have q2 := blk_r H0.out (i := 2) rfl
  have q3 := blk_r H0.out (i := 3) rfl
  have q4 := blk_r H0.out (i := 4) rfl
  have q5 := blk_r H0.out (i := 5) rfl
  have q6 := blk_r H0.out (i := 6) rfl
  have q7 := blk_r H0.out (i := 7) rfl
  rcases hit_or_none ns vs rc rm k with ⟨v, nd, hfit⟩ | hfit
  · have HFT : Hid (HitN ns vs rc rm k v nd) := hfit
    refine Mix.wp_region_mix (Mix.mkKd [(3, .mk (fun u => u = .pointer (some ⟨s, 0, none⟩)) (fun _ _ => True) []), (7, .mk (fun u => ∃ g cap : Nat, u = .tuple #[decVN v (.slice (some ⟨g, 0, none⟩) k cap) rc rm k sh, .bool true]) (DecAtN w.heap.size v (List.replicate nd.2.2 (0, true)) rc rm k sh (!across)) []), (8, .pur), (9, .pur), (10, .pur), (11, .mk (fun u => ∃ g : Nat, u = .pointer (some ⟨g, 0, none⟩)) (newBlock W #[.int .i64 0, .slice none 0 0, .int .i64 0, .int .i64 0, .int .i64 0, .int .i64 0, .int .i64 0, .int .i64 0, .bool false, .string ⟨#[]⟩, .int .i64 0, .int .u64 0] 99) []), (12, .wr), (13, .pur)]) (by kernel_rfl) (by kernel_rfl) (Mix.makers_of ?_) ?_
    · intro p hp
      simp only [List.mem_cons, List.not_mem_nil, or_false] at hp
      rcases hp with rfl | rfl | rfl | rfl | rfl | rfl | rfl | rfl
      · exact ⟨fun _ _ _ _ _ => trivial, _, _, rfl, rfl, by simp⟩
      · exact ⟨decAtN_lasts _ _ _ _ _ _ _ _, _, _, rfl, rfl, by simp⟩
      · trivial
      · trivial
      · trivial
      · exact ⟨newBlock_lasts _ _ _, _, _, rfl, rfl, by simp⟩
      · trivial
      · trivial
    iterate 3
      refine Mix.x_det rfl (fun K hK => ?_)
      go_simp
      refine hK _ ?_
      clear hK K
    refine Mix.x_mk _ _ _ rfl rfl (.pointer (some ⟨s, 0, none⟩)) rfl (fun p _ => ?_) ?_
    · go_simp
      refine (loadShelf l 2 s _ cs (cell_regrown HL.out p.d p.os) ((below_regrown W p.d p.os).block s (heap_lt HS.out) |>.trans HS.out) hcs).mono ?_
      rintro e w'' ⟨rfl, rfl⟩
      simpa using Below.refl _ _
    rintro u rfl
    iterate 3
      refine Mix.x_det rfl (fun K hK => ?_)
      go_simp
      refine hK _ ?_
      clear hK K
    refine Mix.x_mk _ _ _ rfl rfl (.tuple #[decVN v (.slice (some ⟨0, 0, none⟩) k 0) rc rm k sh, .bool true]) ⟨_, _, rfl⟩ (fun p _ => ?_) ?_
    · go_simp
      refine (chooseN s m ns vs rc rm k sh across _ (HN.out.below (below_regrown W p.d p.os)) hvl HRQ.out).mono ?_
      · skip
        rintro e w'' ⟨hbe, ⟨v', nd', hh, g', cap', L, rfl, hown, hgr⟩ | ⟨hn, _⟩⟩
        · obtain ⟨rfl, rfl⟩ := hit_same HFT.out hh
          exact ⟨_, rfl, by simpa using hbe, ⟨_, _, rfl⟩, _, _, _, rfl, owns_low hown (Nat.le_trans hb0.size (below_regrown W p.d p.os).size), hgr⟩
        · exact absurd hn (hit_not_none HFT.out)
    rintro u ⟨g', cap', rfl⟩
    iterate 3
      refine Mix.x_pur rfl (fun K hK => ?_)
      go_simp
      refine hK _ ?_
      clear hK K
    refine Mix.x_mk _ _ _ rfl rfl (.pointer (some ⟨0, 0, none⟩)) ⟨0, rfl⟩ (fun p _ => ?_) ?_
    · go_simp
      exact newBlock_alloc' _ _ _ _
    rintro u ⟨g9, rfl⟩
    refine Mix.x_wr (AfterDecN w g9 v (.slice (some ⟨g', 0, none⟩) k cap') rc rm k sh (fun W2 => ∃ L : List Nat, W2.ownsRow w.heap.size 3 1 (.slice (some ⟨g', 0, none⟩) k cap') k (L.map natV) ∧ GrantedIds (List.replicate nd.2.2 (0, true)) k (!across) L)) rfl rfl ?_ ?_
    · intro W1 hW1
      obtain ⟨hb1, hk1⟩ := hW1
      obtain ⟨g2, he2, hg2, hblk⟩ := hk1 11 _ _ _ _ rfl rfl rfl
      obtain ⟨g3, cap3, L, he3, hown, hgr⟩ := hk1 7 _ _ _ _ rfl rfl rfl
      have he2' : Value.pointer (some ⟨g9, 0, none⟩) = .pointer (some ⟨g2, 0, none⟩) := he2
      obtain rfl : g9 = g2 := by simpa using he2'
      have he3' : Value.tuple #[decVN v (.slice (some ⟨g', 0, none⟩) k cap') rc rm k sh, .bool true] = .tuple #[decVN v (.slice (some ⟨g3, 0, none⟩) k cap3) rc rm k sh, .bool true] := he3
      obtain ⟨rfl, rfl⟩ : g' = g3 ∧ cap' = cap3 := by simpa [decVN] using he3'
      have hl9 := heap_lt H1.out
      refine ⟨_, store_runs 99 _ _ rfl g9 #[.int .i64 (v : Nat), .slice (some ⟨g', 0, none⟩) k cap', .int .i64 rc, .int .i64 rm, .int .i64 k, .int .i64 sh, .int .i64 0, .int .i64 0, .bool false, .string ⟨#[]⟩, .int .i64 0, .int .u64 0] rfl rfl 99 _ hblk (by kernel_rfl) rfl (by simp [Value.oneCell']), ?_, setRow_heap W1 g9 _ _ 99 _ hblk, ?_, L, owns_setRow hown hblk (by decide) _, hgr⟩
      · exact (hb0.trans (hb1.mono hb0.size)).trans ⟨rfl, rfl, rfl, by simp [World.setRow], fun q hq => setRow_other W1 g9 q _ (by have := hb0.size; omega)⟩
      · rw [setRow_other W1 g9 _ _ (by omega), hb1.block _ hl9]
        exact H1.out
    refine Mix.x_pur rfl (fun K hK => ?_)
    go_simp
    refine hK _ ?_
    clear hK K
    intro W2 hW2
    obtain ⟨hbF, hd, hz, L, hown, hgr⟩ := hW2
    have HD : Hid _ := hd
    have HOW : Hid _ := hown
    have HGR : Hid _ := hgr
    clear hd hown hgr q0 q1 q2 q3 q4 q5 q6 q7
    have d0 := blk_c HD.out (Below.refl _ _) (i := 0) rfl
    have d1 := blk_c HD.out (Below.refl _ _) (i := 1) rfl
    have d2 := blk_c HD.out (Below.refl _ _) (i := 2) rfl
    have d3 := blk_c HD.out (Below.refl _ _) (i := 3) rfl
    have d4 := blk_c HD.out (Below.refl _ _) (i := 4) rfl
    have d5 := blk_c HD.out (Below.refl _ _) (i := 5) rfl
    have d6 := blk_c HD.out (Below.refl _ _) (i := 6) rfl
    have d7 := blk_c HD.out (Below.refl _ _) (i := 7) rfl
    have d8 := blk_c HD.out (Below.refl _ _) (i := 8) rfl
    have d9 := blk_c HD.out (Below.refl _ _) (i := 9) rfl
    have d10 := blk_c HD.out (Below.refl _ _) (i := 10) rfl
    have d11 := blk_c HD.out (Below.refl _ _) (i := 11) rfl
    have HZ : Hid _ := hz
    have z0 := blk_c hz (Below.refl _ _) (i := 0) rfl
    have y0 := blk_f hz (Below.refl _ _) 0
    have z1 := blk_c hz (Below.refl _ _) (i := 1) rfl
    have y1 := blk_f hz (Below.refl _ _) 1
    have z2 := blk_c hz (Below.refl _ _) (i := 2) rfl
    have y2 := blk_f hz (Below.refl _ _) 2
    have z3 := blk_c hz (Below.refl _ _) (i := 3) rfl
    have y3 := blk_f hz (Below.refl _ _) 3
    have z4 := blk_c hz (Below.refl _ _) (i := 4) rfl
    have y4 := blk_f hz (Below.refl _ _) 4
    have z5 := blk_c hz (Below.refl _ _) (i := 5) rfl
    have y5 := blk_f hz (Below.refl _ _) 5
    have z6 := blk_c hz (Below.refl _ _) (i := 6) rfl
    have y6 := blk_f hz (Below.refl _ _) 6
    have z7 := blk_c hz (Below.refl _ _) (i := 7) rfl
    have y7 := blk_f hz (Below.refl _ _) 7
    have z8 := blk_c hz (Below.refl _ _) (i := 8) rfl
    have y8 := blk_f hz (Below.refl _ _) 8
    have z9 := blk_c hz (Below.refl _ _) (i := 9) rfl
    have y9 := blk_f hz (Below.refl _ _) 9
    clear hz
    show Exit.then _ _ _ _ _
    go_upto_region 2 with fail
    go_region
    go_wp2_with fail
    refine bodyPost_ret (v := .tuple #[grantVN v (.slice (some ⟨g', 0, none⟩) k cap') rc rm k sh, .int .i64 0, .bool true]) (by simp [results, Tryz.results11, go_sem, grantVN, z0, z1, z2, z3, z4, z5, z6, z7, z8, z9]) rfl ⟨?_, .inl ⟨v, nd, HFT.out, g', cap', L, rfl, ?_, HGR.out⟩⟩
    · refine below_drew ?_
      iterate 10 refine RowKit.Below.setCell ?_ (Nat.le_succ _) _
      exact hbF
    · have hne : ∀ q, Value.ownBlock (.slice (some ⟨g', 0, none⟩) k cap') = some q → q ≠ w.heap.size + 1 := owns_ne HOW.out HZ.out (by decide)
      refine owns_drew ?_
      iterate 10 refine owns_setCell ?_ hne
      exact HOW.out
  · have HFT : Hid (NoneN ns vs rc rm k) := hfit
    refine Mix.wp_region_mix (Mix.mkKd [(3, .mk (fun u => u = .pointer (some ⟨s, 0, none⟩)) (fun _ _ => True) []), (7, .mk (fun u => u = .tuple #[decVN 0 (.slice none 0 0) 0 0 0 0, .bool false]) (fun _ _ => True) []), (8, .pur), (9, .pur), (10, .pur), (11, .mk (fun u => ∃ g : Nat, u = .pointer (some ⟨g, 0, none⟩)) (newBlock W #[.int .i64 0, .slice none 0 0, .int .i64 0, .int .i64 0, .int .i64 0, .int .i64 0, .int .i64 0, .int .i64 0, .bool false, .string ⟨#[]⟩, .int .i64 0, .int .u64 0] 99) []), (12, .wr), (13, .pur)]) (by kernel_rfl) (by kernel_rfl) (Mix.makers_of ?_) ?_
    · intro p hp
      simp only [List.mem_cons, List.not_mem_nil, or_false] at hp
      rcases hp with rfl | rfl | rfl | rfl | rfl | rfl | rfl | rfl
      · exact ⟨fun _ _ _ _ _ => trivial, _, _, rfl, rfl, by simp⟩
      · exact ⟨fun _ _ _ _ _ => trivial, _, _, rfl, rfl, by simp⟩
      · trivial
      · trivial
      · trivial
      · exact ⟨newBlock_lasts _ _ _, _, _, rfl, rfl, by simp⟩
      · trivial
      · trivial
    iterate 3
      refine Mix.x_det rfl (fun K hK => ?_)
      go_simp
      refine hK _ ?_
      clear hK K
    refine Mix.x_mk _ _ _ rfl rfl (.pointer (some ⟨s, 0, none⟩)) rfl (fun p _ => ?_) ?_
    · go_simp
      refine (loadShelf l 2 s _ cs (cell_regrown HL.out p.d p.os) ((below_regrown W p.d p.os).block s (heap_lt HS.out) |>.trans HS.out) hcs).mono ?_
      rintro e w'' ⟨rfl, rfl⟩
      simpa using Below.refl _ _
    rintro u rfl
    iterate 3
      refine Mix.x_det rfl (fun K hK => ?_)
      go_simp
      refine hK _ ?_
      clear hK K
    refine Mix.x_mk _ _ _ rfl rfl (.tuple #[decVN 0 (.slice none 0 0) 0 0 0 0, .bool false]) rfl (fun p _ => ?_) ?_
    · go_simp
      refine (chooseN s m ns vs rc rm k sh across _ (HN.out.below (below_regrown W p.d p.os)) hvl HRQ.out).mono ?_
      · skip
        rintro e w'' ⟨hbe, ⟨v', nd', hh, _⟩ | ⟨_, rfl⟩⟩
        · exact absurd HFT.out (hit_not_none hh)
        · simpa using hbe
    rintro u rfl
    iterate 3
      refine Mix.x_pur rfl (fun K hK => ?_)
      go_simp
      refine hK _ ?_
      clear hK K
    refine Mix.x_mk _ _ _ rfl rfl (.pointer (some ⟨0, 0, none⟩)) ⟨0, rfl⟩ (fun p _ => ?_) ?_
    · go_simp
      exact newBlock_alloc' _ _ _ _
    rintro u ⟨g9, rfl⟩
    refine Mix.x_wr (AfterDecN w g9 0 (.slice none 0 0) 0 0 0 0 (fun _ => True)) rfl rfl ?_ ?_
    · intro W1 hW1
      obtain ⟨hb1, hk1⟩ := hW1
      obtain ⟨g2, he2, hg2, hblk⟩ := hk1 11 _ _ _ _ rfl rfl rfl
      have he2' : Value.pointer (some ⟨g9, 0, none⟩) = .pointer (some ⟨g2, 0, none⟩) := he2
      obtain rfl : g9 = g2 := by simpa using he2'
      have hl9 := heap_lt H1.out
      refine ⟨_, store_runs 99 _ _ rfl g9 #[.int .i64 0, .slice none 0 0, .int .i64 0, .int .i64 0, .int .i64 0, .int .i64 0, .int .i64 0, .int .i64 0, .bool false, .string ⟨#[]⟩, .int .i64 0, .int .u64 0] rfl rfl 99 _ hblk (by kernel_rfl) rfl (by simp [Value.oneCell']), ?_, setRow_heap W1 g9 _ _ 99 _ hblk, ?_, trivial⟩
      · exact (hb0.trans (hb1.mono hb0.size)).trans ⟨rfl, rfl, rfl, by simp [World.setRow], fun q hq => setRow_other W1 g9 q _ (by have := hb0.size; omega)⟩
      · rw [setRow_other W1 g9 _ _ (by omega), hb1.block _ hl9]
        exact H1.out
    refine Mix.x_pur rfl (fun K hK => ?_)
    go_simp
    refine hK _ ?_
    clear hK K
    intro W2 hW2
    obtain ⟨hbF, hd, hz, -⟩ := hW2
    have HD : Hid _ := hd
    clear hd q0 q1 q2 q3 q4 q5 q6 q7
    have d0 := blk_c HD.out (Below.refl _ _) (i := 0) rfl
    have d1 := blk_c HD.out (Below.refl _ _) (i := 1) rfl
    have d2 := blk_c HD.out (Below.refl _ _) (i := 2) rfl
    have d3 := blk_c HD.out (Below.refl _ _) (i := 3) rfl
    have d4 := blk_c HD.out (Below.refl _ _) (i := 4) rfl
    have d5 := blk_c HD.out (Below.refl _ _) (i := 5) rfl
    have d6 := blk_c HD.out (Below.refl _ _) (i := 6) rfl
    have d7 := blk_c HD.out (Below.refl _ _) (i := 7) rfl
    have d8 := blk_c HD.out (Below.refl _ _) (i := 8) rfl
    have d9 := blk_c HD.out (Below.refl _ _) (i := 9) rfl
    have d10 := blk_c HD.out (Below.refl _ _) (i := 10) rfl
    have d11 := blk_c HD.out (Below.refl _ _) (i := 11) rfl
    have z0 := blk_c hz (Below.refl _ _) (i := 0) rfl
    have y0 := blk_f hz (Below.refl _ _) 0
    have z1 := blk_c hz (Below.refl _ _) (i := 1) rfl
    have y1 := blk_f hz (Below.refl _ _) 1
    have z2 := blk_c hz (Below.refl _ _) (i := 2) rfl
    have y2 := blk_f hz (Below.refl _ _) 2
    have z3 := blk_c hz (Below.refl _ _) (i := 3) rfl
    have y3 := blk_f hz (Below.refl _ _) 3
    have z4 := blk_c hz (Below.refl _ _) (i := 4) rfl
    have y4 := blk_f hz (Below.refl _ _) 4
    have z5 := blk_c hz (Below.refl _ _) (i := 5) rfl
    have y5 := blk_f hz (Below.refl _ _) 5
    have z6 := blk_c hz (Below.refl _ _) (i := 6) rfl
    have y6 := blk_f hz (Below.refl _ _) 6
    have z7 := blk_c hz (Below.refl _ _) (i := 7) rfl
    have y7 := blk_f hz (Below.refl _ _) 7
    have z8 := blk_c hz (Below.refl _ _) (i := 8) rfl
    have y8 := blk_f hz (Below.refl _ _) 8
    have z9 := blk_c hz (Below.refl _ _) (i := 9) rfl
    have y9 := blk_f hz (Below.refl _ _) 9
    clear hz
    show Exit.then _ _ _ _ _
    go_upto_region 2 with fail
    go_region
    go_wp2_with fail
    refine bodyPost_ret (v := .tuple #[grantVN 0 (.slice none 0 0) 0 0 0 0, .int .i64 0, .bool false]) (by simp [results, Tryz.results11, go_sem, grantVN, z0, z1, z2, z3, z4, z5, z6, z7, z8, z9]) rfl ⟨?_, .inr ⟨HFT.out, rfl⟩⟩
    refine below_drew ?_
    iterate 10 refine RowKit.Below.setCell ?_ (Nat.le_succ _) _
    exact hbF


end Go.Proofs.Qxb6612460aGreatFmt
