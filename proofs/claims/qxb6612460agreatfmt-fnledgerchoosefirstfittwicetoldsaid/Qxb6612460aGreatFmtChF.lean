/-
  choose with findings, the first time.
-/
import Derived.Test.Qxb6612460aGreatFmtRecd
import Derived.Test.Qxb6612460aGreatFmtTryL0
import Derived.Test.Qxb6612460aGreatFmtZZN
namespace Go.Proofs.Qxb6612460aGreatFmt
open Go.RowKit Go.Sort Go.MuLone
attribute [local go_sem] Option.isNone_none Option.isNone_some
attribute [local go_sem] sUpon mUpon
attribute [local go_sem] Mix.isVal Mix.makes

/-- What is kept of the first t nodes of the visit list. -/
def KeptTo (K : List (Nat × Int)) (vs : List Nat) (hit : Option Nat) (t : Nat) : Prop := ∀ (u v : Nat), u < t → vs[u]? = some v → K[v]? = some (kindOf hit u, 0)
theorem KeptTo.all {K : List (Nat × Int)} {vs : List Nat} {hit : Option Nat} (h : KeptTo K vs hit vs.length) : KAfter K vs hit := fun t v hv => h t v (List.getElem?_eq_some_iff.1 hv).1 hv
theorem KeptTo.next {K : List (Nat × Int)} {vs : List Nat} {hit hit' : Option Nat} {t v : Nat} (hs : vs.Pairwise (· < ·)) (h : KeptTo K vs hit t) (hv : vs[t]? = some v) (hl : v < K.length) (hsame : ∀ u, u < t → kindOf hit' u = kindOf hit u) : KeptTo (K.set v (kindOf hit' t, 0)) vs hit' (t + 1) := by
  intro u x hu hx
  rcases Nat.lt_or_ge u t with hut | hut
  · obtain ⟨h1, rfl⟩ := List.getElem?_eq_some_iff.1 hx
    obtain ⟨h2, rfl⟩ := List.getElem?_eq_some_iff.1 hv
    have hlt := List.pairwise_iff_getElem.1 hs u t h1 h2 hut
    rw [List.getElem?_set_ne (by omega), hsame u hut]
    exact h u _ hut hx
  · obtain rfl : u = t := by omega
    rw [hv] at hx
    cases hx
    rw [List.getElem?_set_self hl]
/-- Nothing is kept of the other nodes. -/
def KeptFrom (K : List (Nat × Int)) (vs : List Nat) (t : Nat) : Prop := ∀ (u v : Nat), t ≤ u → vs[u]? = some v → K[v]? = some (0, 0)
theorem KeptFrom.next {K : List (Nat × Int)} {vs : List Nat} {t v : Nat} {x : Nat × Int} (hs : vs.Pairwise (· < ·)) (h : KeptFrom K vs t) (hv : vs[t]? = some v) : KeptFrom (K.set v x) vs (t + 1) := by
  intro u y hu hy
  obtain ⟨h1, rfl⟩ := List.getElem?_eq_some_iff.1 hy
  obtain ⟨h2, rfl⟩ := List.getElem?_eq_some_iff.1 hv
  have hlt := List.pairwise_iff_getElem.1 hs t u h2 h1 (by omega)
  rw [List.getElem?_set_ne (by omega)]
  exact h u _ (by omega) hy
theorem kind_none (u : Nat) : kindOf none u = 1 := rfl
theorem kind_lt {t u : Nat} (h : u < t) : kindOf (some t) u = 1 := by simp [kindOf, h]
theorem kind_eq (t : Nat) : kindOf (some t) t = 2 := by simp [kindOf]
theorem kind_gt {t u : Nat} (h : t < u) : kindOf (some t) u = 3 := by simp only [kindOf]; rw [if_neg (by omega), if_neg (by omega)]
theorem leastF0 (f i kg n : Nat) (fc : Array Value) (B : Nat) (K : List (Nat × Int)) (w : World) (hf : w.heap[f]? = some (.cells fc 165 (0, 0))) (h10 : fc[10]? = some (keptV kg n)) (hK : KeptRow w B kg n K) (hi : i < n) (hki : K[i]? = some (0, 0)) :
    Calls Tryz.prog 35 #[.pointer (some ⟨f, 0, none⟩), .int .i64 (i : Nat), .int .u64 0] w fun e w' => e = .returned (.int .i64 (-9223372036854775808)) ∧ w = w' :=
  (leastF f i kg n 0 0 fc B K w hf h10 hK hi hki (by omega)).mono (fun e w' h => by simpa using h)
theorem leastF3 (f i kg n : Nat) (fc : Array Value) (B : Nat) (K : List (Nat × Int)) (w : World) (hf : w.heap[f]? = some (.cells fc 165 (0, 0))) (h10 : fc[10]? = some (keptV kg n)) (hK : KeptRow w B kg n K) (hi : i < n) (hki : K[i]? = some (3, 0)) :
    Calls Tryz.prog 35 #[.pointer (some ⟨f, 0, none⟩), .int .i64 (i : Nat), .int .u64 0] w fun e w' => e = .returned (.int .i64 0) ∧ w = w' :=
  (leastF f i kg n 3 0 fc B K w hf h10 hK hi hki (by omega)).mono (fun e w' h => by simpa using h)
/-- What stands behind t rounds. -/
def RoundF (W3 wr : World) (gb kg n B : Nat) (ns : List (Int × Int × Nat)) (vs : List Nat) (rc rm : Int) (k : Nat) (across : Bool) (t : Nat) : Prop :=
  OnlyS [kg, gb] W3 wr ∧
  ((NoneN ns (vs.take t) rc rm k ∧ wr.heap[gb]? = some (.cells #[.int .i64 (-1), .int .u8 0, .int .i64 0, .slice none 0 0] 127) ∧ ∃ K, KeptRow wr B kg n K ∧ KeptTo K vs none t ∧ KeptFrom K vs t) ∨
   (∃ (t0 v : Nat) (nd : Int × Int × Nat) (g cap : Nat) (L : List Nat), t0 < t ∧ vs[t0]? = some v ∧ ns[v]? = some nd ∧ FitN rc rm k nd ∧ NoneN ns (vs.take t0) rc rm k ∧ wr.heap[gb]? = some (.cells #[.int .i64 (v : Nat), .int .u8 2, .int .i64 0, .slice (some ⟨g, 0, none⟩) k cap] 127 (0, 0)) ∧ wr.ownsRow (gb + 1) 3 1 (.slice (some ⟨g, 0, none⟩) k cap) k (L.map natV) ∧ GrantedIds (List.replicate nd.2.2 (0, true)) k (!across) L ∧ ∃ K, KeptRow wr B kg n K ∧ KeptTo K vs (some t0) t ∧ KeptFrom K vs t))
/-- What a decision with findings leaves. -/
def ChoosePostF (TD : Value → Prop) (w : World) (f m kg n B : Nat) (ns : List (Int × Int × Nat)) (vs : List Nat) (rc rm : Int) (k : Nat) (sh : Int) (across : Bool) (e : Ending) (w' : World) : Prop :=
  OnlyS [f, kg] w w' ∧ (∃ td, TD td ∧ w'.heap[f]? = some (.cells #[.int .i64 rc, .int .i64 rm, .int .i64 k, .int .i64 sh, .int .i64 0, .int .i64 0, .bool false, .string ⟨#[]⟩, .bool across, .pointer (some ⟨m, 0, none⟩), .slice (some ⟨kg, 0, none⟩) n n, td, .bool true] 165 (0, 0))) ∧
  ((∃ (t0 v : Nat) (nd : Int × Int × Nat), vs[t0]? = some v ∧ ns[v]? = some nd ∧ FitN rc rm k nd ∧ NoneN ns (vs.take t0) rc rm k ∧ (∃ K, KeptRow w' B kg n K ∧ KAfter K vs (some t0)) ∧ ∃ (g cap : Nat) (L : List Nat), e = .returned (.tuple #[decVN v (.slice (some ⟨g, 0, none⟩) k cap) rc rm k sh, .bool true]) ∧ w'.ownsRow w.heap.size 3 1 (.slice (some ⟨g, 0, none⟩) k cap) k (L.map natV) ∧ GrantedIds (List.replicate nd.2.2 (0, true)) k (!across) L) ∨
   (NoneN ns vs rc rm k ∧ (∃ K, KeptRow w' B kg n K ∧ KAfter K vs none) ∧ e = .returned (.tuple #[decVN 0 (.slice none 0 0) 0 0 0 0, .bool false])))

set_option maxRecDepth 100000 in
set_option maxHeartbeats 8000000 in
theorem chooseF (f s m kg n B : Nat) (ns : List (Int × Int × Nat)) (vs : List Nat) (rc rm : Int) (k : Nat) (sh : Int) (across : Bool) (td : Value) (K0 : List (Nat × Int)) (w : World)
    (hf : w.heap[f]? = some (.cells #[.int .i64 rc, .int .i64 rm, .int .i64 k, .int .i64 sh, .int .i64 0, .int .i64 0, .bool false, .string ⟨#[]⟩, .bool across, .pointer none, .slice (some ⟨kg, 0, none⟩) n n, td, .bool true] 165 (0, 0))) (hK : KeptRow w B kg n K0) (hSH : ∀ z, OnlyS [f, kg] w z → ShelfAt z s m ns vs) (hnn : ns.length = n) (h0n : 0 < n) (hvl : vs.length ≤ 65536) (hr : ReqOk k sh) (hsf : s ≠ f) (hsk : s ≠ kg) (hfk : f ≠ kg) :
    Calls Tryz.prog 24 #[.pointer (some ⟨s, 0, none⟩), .agg #[.int .i64 rc, .int .i64 rm, .int .i64 k, .int .i64 sh, .int .i64 0, .int .i64 0, .bool false, .string ⟨#[]⟩, .bool across], .pointer (some ⟨f, 0, none⟩)] w (ChoosePostF (fun x => x = td) w f m kg n B ns vs rc rm k sh across) := by
  have HF : Hid (w.heap[f]? = some (.cells #[.int .i64 rc, .int .i64 rm, .int .i64 k, .int .i64 sh, .int .i64 0, .int .i64 0, .bool false, .string ⟨#[]⟩, .bool across, .pointer none, .slice (some ⟨kg, 0, none⟩) n n, td, .bool true] 165 (0, 0))) := hf
  have HK : Hid (KeptRow w B kg n K0) := hK
  have HSH : Hid (∀ z, OnlyS [f, kg] w z → ShelfAt z s m ns vs) := hSH
  have HRQ : Hid (ReqOk k sh) := hr
  have HSw : Hid (ShelfAt w s m ns vs) := hSH w (OnlyS.refl _ _)
  obtain ⟨va, vc, v1, -⟩ := HSw.out.visit
  have V0 : Hid (w.cell? ⟨s, 3, none⟩ = some (.slice va vs.length vc)) := v1
  have lts := cell_lt v1
  simp only at lts
  have hlf := heap_lt hf
  have hlk := ownsRow_lt hK kg rfl
  have hsS : s ∉ [f, kg] := by simp only [List.mem_cons, List.not_mem_nil, or_false, not_or]; exact ⟨hsf, hsk⟩
  have nfk : ∀ q, w.heap.size ≤ q → q ∉ [f, kg] := fun q hq => by simp only [List.mem_cons, List.not_mem_nil, or_false, not_or]; exact ⟨by omega, by omega⟩
  clear hf hK hSH hr
  have q23 : ∀ (w : World) (g n c : Nat), (binOp .eql 23 (.slice (some ⟨g, 0, none⟩) n c) (.slice none 0 0)).run Tryz.prog w = .ok (.bool false) w := fun w g n c => Lib.run_eql_slice_nil w _ _ (some _) n c 0 0 Tryz.underlying23
  have q23' : ∀ (w : World), (binOp .eql 23 (.slice none 0 0) (.slice none 0 0)).run Tryz.prog w = .ok (.bool true) w := fun w => Lib.run_eql_slice_nil w _ _ none 0 0 0 0 Tryz.underlying23
  go_enter Tryz.func24, Tryz.ntmps24
  have hb0 : Below w.heap.size w ((w.alloc (.cells #[.int .i64 rc, .int .i64 rm, .int .i64 k, .int .i64 sh, .int .i64 0, .int .i64 0, .bool false, .string ⟨#[]⟩, .bool across] 104)).alloc (.cells #[.int .i64 0, .slice none 0 0, .int .i64 0, .int .i64 0, .int .i64 0, .int .i64 0, .int .i64 0, .int .i64 0, .bool false, .string ⟨#[]⟩, .int .i64 0, .int .u64 0] 99)) := (below_alloc1 _ _).alloc (by simp) _
  have H0 : Hid (((w.alloc (.cells #[.int .i64 rc, .int .i64 rm, .int .i64 k, .int .i64 sh, .int .i64 0, .int .i64 0, .bool false, .string ⟨#[]⟩, .bool across] 104)).alloc (.cells #[.int .i64 0, .slice none 0 0, .int .i64 0, .int .i64 0, .int .i64 0, .int .i64 0, .int .i64 0, .int .i64 0, .bool false, .string ⟨#[]⟩, .int .i64 0, .int .u64 0] 99)).heap[w.heap.size]? = some (.cells #[.int .i64 rc, .int .i64 rm, .int .i64 k, .int .i64 sh, .int .i64 0, .int .i64 0, .bool false, .string ⟨#[]⟩, .bool across] 104)) := by
    show _ = _
    rw [heap_alloc_old _ _ (by simp), heap_alloc_new]
  have H1 : Hid (((w.alloc (.cells #[.int .i64 rc, .int .i64 rm, .int .i64 k, .int .i64 sh, .int .i64 0, .int .i64 0, .bool false, .string ⟨#[]⟩, .bool across] 104)).alloc (.cells #[.int .i64 0, .slice none 0 0, .int .i64 0, .int .i64 0, .int .i64 0, .int .i64 0, .int .i64 0, .int .i64 0, .bool false, .string ⟨#[]⟩, .int .i64 0, .int .u64 0] 99)).heap[w.heap.size + 1]? = some (.cells #[.int .i64 0, .slice none 0 0, .int .i64 0, .int .i64 0, .int .i64 0, .int .i64 0, .int .i64 0, .int .i64 0, .bool false, .string ⟨#[]⟩, .int .i64 0, .int .u64 0] 99)) := heap_alloc2_new w _ _
  go_wp2_with fail
  generalize hW : (w.alloc (.cells #[.int .i64 rc, .int .i64 rm, .int .i64 k, .int .i64 sh, .int .i64 0, .int .i64 0, .bool false, .string ⟨#[]⟩, .bool across] 104)).alloc (.cells #[.int .i64 0, .slice none 0 0, .int .i64 0, .int .i64 0, .int .i64 0, .int .i64 0, .int .i64 0, .int .i64 0, .bool false, .string ⟨#[]⟩, .int .i64 0, .int .u64 0] 99) = W at *
  clear hW
  have HNW : Hid (ShelfAt W s m ns vs) := HSH.out W (OnlyS.of hb0)
  refine (decidingG s m rc rm k sh HRQ.out across W HNW.out.mixp HNW.out.mix).mono ?_
  rintro e W1 ⟨rfl, hb1⟩
  have l0 := hb0.size
  have hbA : Below w.heap.size w W1 := hb0.trans (hb1.mono l0)
  have H0' : Hid (W1.heap[w.heap.size]? = some (.cells #[.int .i64 rc, .int .i64 rm, .int .i64 k, .int .i64 sh, .int .i64 0, .int .i64 0, .bool false, .string ⟨#[]⟩, .bool across] 104)) := (hb1.block _ (heap_lt H0.out)).trans H0.out
  have H1' : Hid (W1.heap[w.heap.size + 1]? = some (.cells #[.int .i64 0, .slice none 0 0, .int .i64 0, .int .i64 0, .int .i64 0, .int .i64 0, .int .i64 0, .int .i64 0, .bool false, .string ⟨#[]⟩, .int .i64 0, .int .u64 0] 99)) := (hb1.block _ (heap_lt H1.out)).trans H1.out
  have l1 := heap_lt H1'.out
  clear hb1 hb0 H0 H1 HNW l0
  go_upto_region 3 with fail
  have hb2 : Below W1.heap.size W1 ((W1.alloc (.cells #[.int .i64 rc, .int .i64 rm, .int .i64 k, .int .i64 sh, .int .i64 0, .int .i64 0, .bool false, .string ⟨#[]⟩, .bool across, .int .i64 (-1), .bool false, .int .i64 (milG k sh)] 121)).alloc (.cells #[.int .i64 (-1), .int .u8 0, .int .i64 0, .slice none 0 0] 127)) := (below_alloc1 _ _).alloc (by simp) _
  have HQ : Hid (((W1.alloc (.cells #[.int .i64 rc, .int .i64 rm, .int .i64 k, .int .i64 sh, .int .i64 0, .int .i64 0, .bool false, .string ⟨#[]⟩, .bool across, .int .i64 (-1), .bool false, .int .i64 (milG k sh)] 121)).alloc (.cells #[.int .i64 (-1), .int .u8 0, .int .i64 0, .slice none 0 0] 127)).heap[W1.heap.size]? = some (.cells #[.int .i64 rc, .int .i64 rm, .int .i64 k, .int .i64 sh, .int .i64 0, .int .i64 0, .bool false, .string ⟨#[]⟩, .bool across, .int .i64 (-1), .bool false, .int .i64 (milG k sh)] 121)) := by
    show _ = _
    rw [heap_alloc_old _ _ (by simp), heap_alloc_new]
  have HBE : Hid (((W1.alloc (.cells #[.int .i64 rc, .int .i64 rm, .int .i64 k, .int .i64 sh, .int .i64 0, .int .i64 0, .bool false, .string ⟨#[]⟩, .bool across, .int .i64 (-1), .bool false, .int .i64 (milG k sh)] 121)).alloc (.cells #[.int .i64 (-1), .int .u8 0, .int .i64 0, .slice none 0 0] 127)).heap[W1.heap.size + 1]? = some (.cells #[.int .i64 (-1), .int .u8 0, .int .i64 0, .slice none 0 0] 127)) := heap_alloc2_new W1 _ _
  have hsz2 : ((W1.alloc (.cells #[.int .i64 rc, .int .i64 rm, .int .i64 k, .int .i64 sh, .int .i64 0, .int .i64 0, .bool false, .string ⟨#[]⟩, .bool across, .int .i64 (-1), .bool false, .int .i64 (milG k sh)] 121)).alloc (.cells #[.int .i64 (-1), .int .u8 0, .int .i64 0, .slice none 0 0] 127)).heap.size = W1.heap.size + 2 := by simp
  generalize hW2 : (W1.alloc (.cells #[.int .i64 rc, .int .i64 rm, .int .i64 k, .int .i64 sh, .int .i64 0, .int .i64 0, .bool false, .string ⟨#[]⟩, .bool across, .int .i64 (-1), .bool false, .int .i64 (milG k sh)] 121)).alloc (.cells #[.int .i64 (-1), .int .u8 0, .int .i64 0, .slice none 0 0] 127) = W2 at *
  clear hW2
  have hbB : Below w.heap.size w W2 := hbA.trans (hb2.mono hbA.size)
  have H0b : Hid (W2.heap[w.heap.size]? = some (.cells #[.int .i64 rc, .int .i64 rm, .int .i64 k, .int .i64 sh, .int .i64 0, .int .i64 0, .bool false, .string ⟨#[]⟩, .bool across] 104)) := (hb2.block _ (heap_lt H0'.out)).trans H0'.out
  have H1b : Hid (W2.heap[w.heap.size + 1]? = some (.cells #[.int .i64 0, .slice none 0 0, .int .i64 0, .int .i64 0, .int .i64 0, .int .i64 0, .int .i64 0, .int .i64 0, .bool false, .string ⟨#[]⟩, .int .i64 0, .int .u64 0] 99)) := (hb2.block _ (heap_lt H1'.out)).trans H1'.out
  have HS2 : Hid (ShelfAt W2 s m ns vs) := HSH.out W2 (OnlyS.of hbB)
  have V1 : Hid (W2.cell? ⟨s, 3, none⟩ = some (.slice va vs.length vc)) := (hbB.cell (p := ⟨s, 3, none⟩) lts).trans v1
  have HF2 : Hid _ := (hbB.block f hlf).trans HF.out
  have HK2 : Hid (KeptRow W2 B kg n K0) := owns_below HK.out hbB
  clear hb2 hbA H0' H1' v1
  have hQlt : W1.heap.size < W2.heap.size := by omega
  go_wp2_with fail
  refine (recalledF f s m (W1.heap.size + 1) kg n rc rm k sh across td _ _ _ _ rfl B K0 W2 HF2.out HK2.out h0n HS2.out.mixp V1.out hsk hfk).mono ?_
  rintro e W3 ⟨rfl, ho3, hf3, hk3⟩
  have hnk : ∀ q, w.heap.size ≤ q → q ∉ [f, kg] := nfk
  have O3 : Hid (OnlyS [f, kg] w W3) := (OnlyS.of hbB).trans ho3
  have HQ3 : Hid (W3.heap[W1.heap.size]? = some (.cells #[.int .i64 rc, .int .i64 rm, .int .i64 k, .int .i64 sh, .int .i64 0, .int .i64 0, .bool false, .string ⟨#[]⟩, .bool across, .int .i64 (-1), .bool false, .int .i64 (milG k sh)] 121)) := ho3.blk HQ.out (hnk _ (by omega))
  have HBE3 : Hid (W3.heap[W1.heap.size + 1]? = some (.cells #[.int .i64 (-1), .int .u8 0, .int .i64 0, .slice none 0 0] 127)) := ho3.blk HBE.out (hnk _ (by omega))
  have H0c : Hid (W3.heap[w.heap.size]? = some (.cells #[.int .i64 rc, .int .i64 rm, .int .i64 k, .int .i64 sh, .int .i64 0, .int .i64 0, .bool false, .string ⟨#[]⟩, .bool across] 104)) := ho3.blk H0b.out (hnk _ (by omega))
  have H1c : Hid (W3.heap[w.heap.size + 1]? = some (.cells #[.int .i64 0, .slice none 0 0, .int .i64 0, .int .i64 0, .int .i64 0, .int .i64 0, .int .i64 0, .int .i64 0, .bool false, .string ⟨#[]⟩, .int .i64 0, .int .u64 0] 99)) := ho3.blk H1b.out (hnk _ (by omega))
  have HF3 : Hid (W3.heap[f]? = some (.cells #[.int .i64 rc, .int .i64 rm, .int .i64 k, .int .i64 sh, .int .i64 0, .int .i64 0, .bool false, .string ⟨#[]⟩, .bool across, .pointer (some ⟨m, 0, none⟩), .slice (some ⟨kg, 0, none⟩) n n, td, .bool true] 165 (0, 0))) := hf3
  have HK3 : Hid (KeptRow W3 B kg n (List.replicate n (0, 0))) := hk3
  have hs3 : W1.heap.size + 2 ≤ W3.heap.size := by have := ho3.size; omega
  have hgS : f ∉ [kg, W1.heap.size + 1] := by simp only [List.mem_cons, List.not_mem_nil, or_false, not_or]; exact ⟨hfk, by omega⟩
  have ngb : ∀ q, w.heap.size ≤ q → q ≠ W1.heap.size + 1 → q ∉ [kg, W1.heap.size + 1] := fun q h1 h2 => by simp only [List.mem_cons, List.not_mem_nil, or_false, not_or]; exact ⟨by omega, h2⟩
  have hgb : W1.heap.size + 1 ≠ kg := by omega
  clear ho3 hf3 hk3 HQ HBE H0b H1b HF2 HK2 HS2 hbB V1
  go_wp2_with fail
  go_loopw [26] (fun iv wr => ∃ t : Nat, t ≤ vs.length ∧ iv = .int .i64 t ∧ Hid (RoundF W3 wr (W1.heap.size + 1) kg n B ns vs rc rm k across t)) (fun iv _ => vs.length - (intOf iv).toNat)
  case atStart => exact ⟨0, Nat.zero_le _, rfl, OnlyS.refl _ _, .inl ⟨by intro u hu; simp at hu, HBE3.out, _, HK3.out, fun u v hu => by omega, fun u v _ hv => by rw [List.getElem?_replicate, if_pos (by rw [← hnn]; exact HSw.out.inv v (List.mem_of_getElem? hv))]⟩⟩
  case round =>
    obtain ⟨t, ht, rfl, hR⟩ := hrel
    have Ow : Hid (OnlyS [f, kg] w wr) := onlyS_new O3.out hR.out.1 (fun q hq => by simp only [List.mem_cons, List.not_mem_nil, or_false] at hq ⊢; rcases hq with rfl | rfl; exact .inr (.inr rfl); exact .inl (by omega))
    have HSr : Hid (ShelfAt wr s m ns vs) := HSH.out wr Ow.out
    by_cases htl : t < vs.length
    · obtain ⟨v, hvt'⟩ : ∃ v, vs[t]? = some v := ⟨vs[t], List.getElem?_eq_getElem htl⟩
      have hvt : Hid (vs[t]? = some v) := hvt'
      obtain ⟨a', c', w3, row'⟩ := HSr.out.visit
      have e3 := Ow.out.cell V0.out hsS
      rw [w3] at e3
      obtain rfl : a' = va := by have := Option.some.inj e3; simp only [Value.slice.injEq] at this; exact this.1
      obtain ⟨vg, vo, hva, hvc⟩ := row' t (natV v) (by rw [List.getElem?_map, hvt']; rfl)
      subst hva
      have vcell : wr.cell? ⟨vg, vo + t, none⟩ = some (.int .i64 (v : Nat)) := hvc
      have hvn : v < n := by rw [← hnn]; exact HSr.out.inv v (List.mem_of_getElem? hvt')
      obtain ⟨nd, hnd'⟩ : ∃ nd, ns[v]? = some nd := ⟨ns[v]'(by omega), List.getElem?_eq_getElem _⟩
      have hnd : Hid (ns[v]? = some nd) := hnd'
      obtain ⟨b, fr, hNA, hFA, hFr, hFl⟩ := HSr.out.node v nd hnd'
      have HFl : Hid (fr.length ≤ 65536) := hFl
      have HNA : Hid (NodeAt wr s m v b) := hNA
      have HFA : Hid (FreshAt wr b nd.1 nd.2.1 nd.2.2 fr) := hFA
      have HFr : Hid (FrOf (List.replicate nd.2.2 (0, true)) fr) := hFr
      have HBD : Hid (0 ≤ nd.1 ∧ nd.1 ≤ 9223372036854775807 ∧ 0 ≤ nd.2.1 ∧ nd.2.1 ≤ 9223372036854775807 ∧ nd.2.2 ≤ 65536) := HSr.out.bound nd (List.mem_of_getElem? hnd')
      have HSO : Hid (vs.Pairwise (· < ·)) := HSr.out.sorted
      have n14 := hFA.books.c14
      obtain ⟨ng, no, nl, cap, n1, n2, n3⟩ := hNA.nodes
      clear hvt' hnd' hvc hNA hFA hFr hFl w3 row' e3
      have HQr : Hid (wr.heap[W1.heap.size]? = some (.cells #[.int .i64 rc, .int .i64 rm, .int .i64 k, .int .i64 sh, .int .i64 0, .int .i64 0, .bool false, .string ⟨#[]⟩, .bool across, .int .i64 (-1), .bool false, .int .i64 (milG k sh)] 121)) := hR.out.1.blk HQ3.out (ngb _ (by omega) (by omega))
      have HFr0 : Hid (wr.heap[f]? = some (.cells #[.int .i64 rc, .int .i64 rm, .int .i64 k, .int .i64 sh, .int .i64 0, .int .i64 0, .bool false, .string ⟨#[]⟩, .bool across, .pointer (some ⟨m, 0, none⟩), .slice (some ⟨kg, 0, none⟩) n n, td, .bool true] 165 (0, 0))) := hR.out.1.blk HF3.out hgS
      obtain ⟨hrb, ⟨hno', hbe', K, hKr, hKt, hKf⟩ | ⟨u0, v0, nd0, g0, cap0, L0, ht0, hv0', hnd0', hfit0', hno0', hbe', how0', hgr0', K, hKr, hKt, hKf⟩⟩ := hR.out
      · have HKr : Hid (KeptRow wr B kg n K) := hKr
        have HKt : Hid _ := hKt
        have HKf : Hid (KeptFrom K vs t) := hKf
        have HKl : Hid (K.length = n) := by have := hKr.1; rw [keptCells_length] at this; show _ = _; omega
        have hno : Hid _ := hno'
        have HBEr : Hid (wr.heap[W1.heap.size + 1]? = some (.cells #[.int .i64 (-1), .int .u8 0, .int .i64 0, .slice none 0 0] 127)) := hbe'
        have hrB : Hid _ := hrb
        clear hno' hbe' hR hKr hKt hKf hrb
        have hlkr : kg < wr.heap.size := ownsRow_lt HKr.out kg rfl
        go_wp2_with fail
        refine (leastF0 f v kg n _ B K wr HFr0.out rfl HKr.out hvn (HKf.out t v (Nat.le_refl _) hvt.out)).mono ?_
        rintro e w' ⟨rfl, rfl⟩
        go_wp2_with fail
        refine (try_firstG s m v b W1.heap.size (W1.heap.size + 1) nd.1 nd.2.1 rc rm k sh HRQ.out across nd.2.2 fr wr HNA.out HFA.out HQr.out (blk_c HBEr.out (Below.refl _ _) (i := 0) rfl) HBD.out.1 HBD.out.2.1 HBD.out.2.2.1 HBD.out.2.2.2.1 HBD.out.2.2.2.2 HFl.out HFr.out).mono ?_
        rintro e X3 ⟨hb3, ⟨hfit, g, cap', L, rfl, hown, hgr⟩ | ⟨hfit, rfl⟩⟩
        · have HFI : Hid (FitN rc rm k nd) := (fits_fresh HFr.out _ _ _ _ _ _).1 hfit
          have HOW : Hid _ := hown
          have HGR : Hid _ := hgr
          clear hfit hown hgr n14 n1 n2 n3 vcell
          have l3 := hb3.size
          go_wp2_with fail
          have hb4 : Below X3.heap.size X3 (X3.alloc (.cells #[.int .u8 2, .int .i64 0] 125)) := below_alloc1 _ _
          have HT4 : Hid ((X3.alloc (.cells #[.int .u8 2, .int .i64 0] 125)).heap[X3.heap.size]? = some (.cells #[.int .u8 2, .int .i64 0] 125)) := heap_alloc_new X3 _
          generalize hX4 : X3.alloc (.cells #[.int .u8 2, .int .i64 0] 125) = X4 at *
          clear hX4
          have hb24 : Below wr.heap.size wr X4 := hb3.trans (hb4.mono l3)
          have HF4 : Hid _ := (hb24.block _ (heap_lt HFr0.out)).trans HFr0.out
          have HK4 : Hid (KeptRow X4 B kg n K) := owns_below HKr.out hb24
          refine (keepF f v kg n 2 0 _ B K X4 HF4.out rfl HK4.out hvn).mono ?_
          rintro e X5 ⟨rfl, ho5, hk5⟩
          have HK5 : Hid (KeptRow X5 B kg n (K.set v (2, 0))) := hk5
          have n1k : ∀ q, wr.heap.size ≤ q → q ∉ [kg] := fun q hq => by simp only [List.mem_cons, List.not_mem_nil, or_false]; omega
          have HT5 : Hid (X5.heap[X3.heap.size]? = some (.cells #[.int .u8 2, .int .i64 0] 125)) := ho5.blk HT4.out (n1k _ l3)
          have t0 := blk_c HT5.out (Below.refl _ _) (i := 0) rfl
          have t1 := blk_c HT5.out (Below.refl _ _) (i := 1) rfl
          have o25 : OnlyS [kg] wr X5 := (OnlyS.of hb24).trans ho5
          have ho35 : OnlyS [kg] X3 X5 := (OnlyS.of hb4).trans ho5
          have HBE5 : Hid _ := o25.blk HBEr.out (by simp only [List.mem_cons, List.not_mem_nil, or_false]; exact hgb)
          clear hb4 ho5 hk5 HT4 hb24 HF4 HK4
          go_wp2_with fail
          refine (beaten_first (W1.heap.size + 1) v 0 (-1) X5 (blk_c HBE5.out (Below.refl _ _) (i := 0) rfl) (by omega)).mono ?_
          rintro e X6 ⟨rfl, hb6⟩
          have HT6 : Hid (X6.heap[X3.heap.size]? = some (.cells #[.int .u8 2, .int .i64 0] 125)) := (hb6.block _ (heap_lt HT5.out)).trans HT5.out
          have HBE6 : Hid _ := (hb6.block _ (heap_lt HBE5.out)).trans HBE5.out
          have o26 : Hid (OnlyS [kg] wr X6) := o25.trans (OnlyS.of hb6)
          have o36 : Hid (OnlyS [kg] X3 X6) := ho35.trans (OnlyS.of hb6)
          have HK6 : Hid (KeptRow X6 B kg n (K.set v (2, 0))) := owns_below HK5.out hb6
          clear hb6 o25 ho35 HT5 HBE5 HK5 t0 t1
          have t0 := blk_c HT6.out (Below.refl _ _) (i := 0) rfl
          have t1 := blk_c HT6.out (Below.refl _ _) (i := 1) rfl
          have hx3 : wr.heap.size ≤ X3.heap.size := l3
          have hgw : W1.heap.size + 1 < wr.heap.size := heap_lt HBEr.out
          go_wp2_with (refine wpList_store_blk2 rfl 127 _ _ rfl (W1.heap.size + 1) _ rfl rfl 127 _ HBE6.out (by kernel_rfl) rfl (by simp [Value.oneCell']) ?_; intro X7 hw7 ho7; have HW7 : Hid _ := hw7; have HO7 : Hid _ := ho7; clear hw7 ho7; have t0' := blk_c (W := X7) ((HO7.out.1 _ (by omega)).trans HT6.out) (Below.refl _ _) (i := 0) rfl)
          have HRR : Hid (RoundF W3 X7 (W1.heap.size + 1) kg n B ns vs rc rm k across (t + 1)) := by
            refine ⟨onlyS_new (onlyS_new hrB.out o26.out (fun q hq => .inr (by simp only [List.mem_cons, List.not_mem_nil, or_false] at hq ⊢; exact .inl hq))) (T := [W1.heap.size + 1]) ⟨HO7.out.2.2.os, HO7.out.2.2.tape, HO7.out.2.2.output, by rw [HO7.out.2.1]; exact Nat.le_refl _, fun q _ hne => HO7.out.1 q (fun e => hne (by rw [e]; exact List.mem_singleton.2 rfl))⟩ (fun q hq => .inr (by simp only [List.mem_cons, List.not_mem_nil, or_false] at hq ⊢; exact .inr hq)), .inr ⟨t, v, nd, g, cap', L, Nat.lt_succ_self _, hvt.out, hnd.out, HFI.out, hno.out, HW7.out, ?_, HGR.out, K.set v (2, 0), ?_, ?_, HKf.out.next HSO.out hvt.out⟩⟩
            · refine owns_low (B' := wr.heap.size) (ownsRow_same (o36.out.owns HOW.out (fun q hq => n1k q (owns_block HOW.out q hq))) (fun q hq => HO7.out.1 q ?_)) (by omega)
              have := owns_block HOW.out q hq
              omega
            · exact ownsRow_same HK6.out (fun q hq => by cases hq; exact HO7.out.1 kg (by omega))
            · have := KeptTo.next (hit := none) (hit' := some t) HSO.out HKt.out hvt.out (by rw [HKl.out]; exact hvn) (fun u hu => by rw [kind_lt hu]; rfl)
              rw [kind_eq] at this
              exact this
          go_roundw
          case rel => first | exact ⟨t + 1, by omega, by go_num, HRR.out⟩ | ((repeat apply Exists.intro); exact ⟨⟨t + 1, by omega, by go_num, HRR.out⟩, rfl⟩)
          case measure => simp [intOf]; omega
        · have HFI : Hid (¬ FitN rc rm k nd) := fun h => hfit ((fits_fresh HFr.out _ _ _ _ _ _).2 h)
          clear hfit n14 n1 n2 n3 vcell
          have l3 := hb3.size
          go_wp2_with fail
          have hb4 : Below X3.heap.size X3 (X3.alloc (.cells #[.int .u8 1, .int .i64 0] 125)) := below_alloc1 _ _
          have HT4 : Hid ((X3.alloc (.cells #[.int .u8 1, .int .i64 0] 125)).heap[X3.heap.size]? = some (.cells #[.int .u8 1, .int .i64 0] 125)) := heap_alloc_new X3 _
          generalize hX4 : X3.alloc (.cells #[.int .u8 1, .int .i64 0] 125) = X4 at *
          clear hX4
          have hb24 : Below wr.heap.size wr X4 := hb3.trans (hb4.mono l3)
          have HF4 : Hid _ := (hb24.block _ (heap_lt HFr0.out)).trans HFr0.out
          have HK4 : Hid (KeptRow X4 B kg n K) := owns_below HKr.out hb24
          refine (keepF f v kg n 1 0 _ B K X4 HF4.out rfl HK4.out hvn).mono ?_
          rintro e X5 ⟨rfl, ho5, hk5⟩
          have HK5 : Hid (KeptRow X5 B kg n (K.set v (1, 0))) := hk5
          have n1k : ∀ q, wr.heap.size ≤ q → q ∉ [kg] := fun q hq => by simp only [List.mem_cons, List.not_mem_nil, or_false]; omega
          have HT5 : Hid (X5.heap[X3.heap.size]? = some (.cells #[.int .u8 1, .int .i64 0] 125)) := ho5.blk HT4.out (n1k _ l3)
          have t0 := blk_c HT5.out (Below.refl _ _) (i := 0) rfl
          have t1 := blk_c HT5.out (Below.refl _ _) (i := 1) rfl
          have o25 : OnlyS [kg] wr X5 := (OnlyS.of hb24).trans ho5
          have ho35 : OnlyS [kg] X3 X5 := (OnlyS.of hb4).trans ho5
          have HBE5 : Hid _ := o25.blk HBEr.out (by simp only [List.mem_cons, List.not_mem_nil, or_false]; exact hgb)
          clear hb4 ho5 hk5 HT4 hb24 HF4 HK4
          go_wp2_with fail
          refine (beaten_no (W1.heap.size + 1) v 1 0 X5 (by decide) (by decide)).mono ?_
          rintro e X6 ⟨rfl, hb6⟩
          have HT6 : Hid (X6.heap[X3.heap.size]? = some (.cells #[.int .u8 1, .int .i64 0] 125)) := (hb6.block _ (heap_lt HT5.out)).trans HT5.out
          have HBE6 : Hid _ := (hb6.block _ (heap_lt HBE5.out)).trans HBE5.out
          have o26 : Hid (OnlyS [kg] wr X6) := o25.trans (OnlyS.of hb6)
          have o36 : Hid (OnlyS [kg] X3 X6) := ho35.trans (OnlyS.of hb6)
          have HK6 : Hid (KeptRow X6 B kg n (K.set v (1, 0))) := owns_below HK5.out hb6
          clear hb6 o25 ho35 HT5 HBE5 HK5 t0 t1
          have t0 := blk_c HT6.out (Below.refl _ _) (i := 0) rfl
          have t1 := blk_c HT6.out (Below.refl _ _) (i := 1) rfl
          have HRR : Hid (RoundF W3 X6 (W1.heap.size + 1) kg n B ns vs rc rm k across (t + 1)) :=
            ⟨onlyS_new hrB.out o26.out (fun q hq => .inr (by simp only [List.mem_cons, List.not_mem_nil, or_false] at hq ⊢; exact .inl hq)), .inl ⟨no_next hvt.out hnd.out hno.out HFI.out, HBE6.out, K.set v (1, 0), HK6.out, KeptTo.next (hit := none) (hit' := none) HSO.out HKt.out hvt.out (by rw [HKl.out]; exact hvn) (fun u hu => rfl), HKf.out.next HSO.out hvt.out⟩⟩
          go_wp2_with fail
          go_roundw
          case rel => first | exact ⟨t + 1, by omega, by go_num, HRR.out⟩ | ((repeat apply Exists.intro); exact ⟨⟨t + 1, by omega, by go_num, HRR.out⟩, rfl⟩)
          case measure => simp [intOf]; omega
      · have HKr : Hid (KeptRow wr B kg n K) := hKr
        have HKt : Hid _ := hKt
        have HKf : Hid (KeptFrom K vs t) := hKf
        have HKl : Hid (K.length = n) := by have := hKr.1; rw [keptCells_length] at this; show _ = _; omega
        have hv0 : Hid _ := hv0'
        have hnd0 : Hid _ := hnd0'
        have hfit0 : Hid _ := hfit0'
        have hno0 : Hid _ := hno0'
        have how0 : Hid _ := how0'
        have hgr0 : Hid _ := hgr0'
        have HBEr : Hid (wr.heap[W1.heap.size + 1]? = some (.cells #[.int .i64 (v0 : Nat), .int .u8 2, .int .i64 0, .slice (some ⟨g0, 0, none⟩) k cap0] 127)) := hbe'
        have hle : v0 ≤ v := Nat.le_of_lt (HSr.out.sorted' hv0.out hvt.out ht0)
        have hrB : Hid _ := hrb
        clear hv0' hnd0' hfit0' hno0' hbe' how0' hgr0' hR hKr hKt hKf hrb
        have hlkr : kg < wr.heap.size := ownsRow_lt HKr.out kg rfl
        go_wp2_with fail
        refine (leastF0 f v kg n _ B K wr HFr0.out rfl HKr.out hvn (HKf.out t v (Nat.le_refl _) hvt.out)).mono ?_
        rintro e w' ⟨rfl, rfl⟩
        go_wp2_with fail
        refine (try_late s m v b W1.heap.size (W1.heap.size + 1) v0 nd.1 nd.2.1 rc rm k sh (milG k sh) across _ fr wr HNA.out HFA.out.books HQr.out (blk_c HBEr.out (Below.refl _ _) (i := 0) rfl) (blk_c HBEr.out (Below.refl _ _) (i := 1) rfl) (blk_c HBEr.out (Below.refl _ _) (i := 2) rfl) (by omega) (by omega)).mono ?_
        rintro e X3 ⟨rfl, hb3⟩
        clear n14 n1 n2 n3 vcell
        have l3 := hb3.size
        go_wp2_with fail
        have hb4 : Below X3.heap.size X3 (X3.alloc (.cells #[.int .u8 3, .int .i64 0] 125)) := below_alloc1 _ _
        have HT4 : Hid ((X3.alloc (.cells #[.int .u8 3, .int .i64 0] 125)).heap[X3.heap.size]? = some (.cells #[.int .u8 3, .int .i64 0] 125)) := heap_alloc_new X3 _
        generalize hX4 : X3.alloc (.cells #[.int .u8 3, .int .i64 0] 125) = X4 at *
        clear hX4
        have hb24 : Below wr.heap.size wr X4 := hb3.trans (hb4.mono l3)
        have HF4 : Hid _ := (hb24.block _ (heap_lt HFr0.out)).trans HFr0.out
        have HK4 : Hid (KeptRow X4 B kg n K) := owns_below HKr.out hb24
        refine (keepF f v kg n 3 0 _ B K X4 HF4.out rfl HK4.out hvn).mono ?_
        rintro e X5 ⟨rfl, ho5, hk5⟩
        have HK5 : Hid (KeptRow X5 B kg n (K.set v (3, 0))) := hk5
        have n1k : ∀ q, wr.heap.size ≤ q → q ∉ [kg] := fun q hq => by simp only [List.mem_cons, List.not_mem_nil, or_false]; omega
        have HT5 : Hid (X5.heap[X3.heap.size]? = some (.cells #[.int .u8 3, .int .i64 0] 125)) := ho5.blk HT4.out (n1k _ l3)
        have t0 := blk_c HT5.out (Below.refl _ _) (i := 0) rfl
        have t1 := blk_c HT5.out (Below.refl _ _) (i := 1) rfl
        have o25 : OnlyS [kg] wr X5 := (OnlyS.of hb24).trans ho5
        have ho35 : OnlyS [kg] X3 X5 := (OnlyS.of hb4).trans ho5
        have HBE5 : Hid _ := o25.blk HBEr.out (by simp only [List.mem_cons, List.not_mem_nil, or_false]; exact hgb)
        clear hb4 ho5 hk5 HT4 hb24 HF4 HK4
        go_wp2_with fail
        refine (beaten_no (W1.heap.size + 1) v 3 0 X5 (by decide) (by decide)).mono ?_
        rintro e X6 ⟨rfl, hb6⟩
        have HT6 : Hid (X6.heap[X3.heap.size]? = some (.cells #[.int .u8 3, .int .i64 0] 125)) := (hb6.block _ (heap_lt HT5.out)).trans HT5.out
        have HBE6 : Hid _ := (hb6.block _ (heap_lt HBE5.out)).trans HBE5.out
        have o26 : Hid (OnlyS [kg] wr X6) := o25.trans (OnlyS.of hb6)
        have o36 : Hid (OnlyS [kg] X3 X6) := ho35.trans (OnlyS.of hb6)
        have HK6 : Hid (KeptRow X6 B kg n (K.set v (3, 0))) := owns_below HK5.out hb6
        clear hb6 o25 ho35 HT5 HBE5 HK5 t0 t1
        have t0 := blk_c HT6.out (Below.refl _ _) (i := 0) rfl
        have t1 := blk_c HT6.out (Below.refl _ _) (i := 1) rfl
        have HRR : Hid (RoundF W3 X6 (W1.heap.size + 1) kg n B ns vs rc rm k across (t + 1)) := by
          refine ⟨onlyS_new hrB.out o26.out (fun q hq => .inr (by simp only [List.mem_cons, List.not_mem_nil, or_false] at hq ⊢; exact .inl hq)), .inr ⟨u0, v0, nd0, g0, cap0, L0, by omega, hv0.out, hnd0.out, hfit0.out, hno0.out, HBE6.out, o26.out.owns how0.out (fun q hq => by have := owns_block how0.out q hq; simp only [List.mem_cons, List.not_mem_nil, or_false]; omega), hgr0.out, K.set v (3, 0), HK6.out, ?_, HKf.out.next HSO.out hvt.out⟩⟩
          have := KeptTo.next (hit := some u0) (hit' := some u0) HSO.out HKt.out hvt.out (by rw [HKl.out]; exact hvn) (fun u hu => rfl)
          rw [kind_gt ht0] at this
          exact this
        go_wp2_with fail
        go_roundw
        case rel => first | exact ⟨t + 1, by omega, by go_num, HRR.out⟩ | ((repeat apply Exists.intro); exact ⟨⟨t + 1, by omega, by go_num, HRR.out⟩, rfl⟩)
        case measure => simp [intOf]; omega
    · obtain rfl : t = vs.length := by omega
      have H0r : Hid (wr.heap[w.heap.size]? = some (.cells #[.int .i64 rc, .int .i64 rm, .int .i64 k, .int .i64 sh, .int .i64 0, .int .i64 0, .bool false, .string ⟨#[]⟩, .bool across] 104)) := hR.out.1.blk H0c.out (ngb _ (by omega) (by omega))
      have H1r : Hid (wr.heap[w.heap.size + 1]? = some (.cells #[.int .i64 0, .slice none 0 0, .int .i64 0, .int .i64 0, .int .i64 0, .int .i64 0, .int .i64 0, .int .i64 0, .bool false, .string ⟨#[]⟩, .int .i64 0, .int .u64 0] 99)) := hR.out.1.blk H1c.out (ngb _ (by omega) (by omega))
      have HFr0 : Hid (wr.heap[f]? = some (.cells #[.int .i64 rc, .int .i64 rm, .int .i64 k, .int .i64 sh, .int .i64 0, .int .i64 0, .bool false, .string ⟨#[]⟩, .bool across, .pointer (some ⟨m, 0, none⟩), .slice (some ⟨kg, 0, none⟩) n n, td, .bool true] 165 (0, 0))) := hR.out.1.blk HF3.out hgS
      have HNr : Hid (ShelfAt wr s m ns vs) := HSr.out
      obtain ⟨hbr, ⟨hno, hbst, K, hKr, hKt, -⟩ | ⟨t0, v, nd, g, cap', L, ht0, hvt, hnd, hfit, hno, hbst, hown, hgr, K, hKr, hKt, -⟩⟩ := hR.out
      · have HFI : Hid (NoneN ns vs rc rm k) := by have := hno; rw [List.take_length] at this; exact this
        have HKr : Hid (KeptRow wr B kg n K) := hKr
        have HKA : Hid (KAfter K vs none) := KeptTo.all hKt
        have b0 := blk_c hbst (Below.refl _ _) (i := 0) rfl
        clear hno hbst hR hKr hKt hbr
        go_wp2_with (refine wpList_store_blk2 rfl 99 _ _ rfl (w.heap.size + 1) _ rfl rfl 99 _ H1r.out (by kernel_rfl) rfl (by simp [Value.oneCell']) ?_; intro X6 hw6 ho6; have HW6 : Hid _ := hw6; clear hw6)
        refine bodyPost_ret (results_cell_slot Tryz.results24 _ X6 _ 99 _ (0, 0) _ rfl HW6.out Tryz.underlying99 rfl (by kernel_rfl)) rfl ⟨onlyS_new Ow.out (T := [w.heap.size + 1]) ⟨ho6.2.2.os, ho6.2.2.tape, ho6.2.2.output, by rw [ho6.2.1]; exact Nat.le_refl _, fun q _ hne => ho6.1 q (fun e => hne (by rw [e]; exact List.mem_singleton.2 rfl))⟩ (fun q hq => .inl (by simp only [List.mem_cons, List.not_mem_nil, or_false] at hq; omega)), ⟨td, rfl, (ho6.1 f (by omega)).trans HFr0.out⟩, .inr ⟨HFI.out, ⟨K, ?_, HKA.out⟩, rfl⟩⟩
        exact ownsRow_same HKr.out (fun q hq => by cases hq; exact ho6.1 kg (by omega))
      · have HVT : Hid (vs[t0]? = some v) := hvt
        have HND : Hid (ns[v]? = some nd) := hnd
        have HFIT : Hid (FitN rc rm k nd) := hfit
        have HNO : Hid (NoneN ns (vs.take t0) rc rm k) := hno
        have HKr : Hid (KeptRow wr B kg n K) := hKr
        have HKA : Hid (KAfter K vs (some t0)) := KeptTo.all hKt
        have HOW : Hid _ := hown
        have HGR : Hid _ := hgr
        have HBS : Hid _ := hbst
        clear hown hgr hR hbst hvt hfit hno ht0 hKr hKt hbr
        have b0 := blk_c HBS.out (Below.refl _ _) (i := 0) rfl
        have b2 := blk_c HBS.out (Below.refl _ _) (i := 2) rfl
        have b3 := blk_c HBS.out (Below.refl _ _) (i := 3) rfl
        obtain ⟨b, fr, hNA, hFA, -⟩ := HNr.out.node v nd hnd
        have HBr : Hid (FreshAt wr b nd.1 nd.2.1 nd.2.2 fr) := hFA
        obtain ⟨ng, no, nl, cap, n1, n2, n3⟩ := hNA.nodes
        have hvneg : decide ((v : Int) < 0) = false := by simp
        clear hNA hFA hnd
        have x0 := blk_c H0r.out (Below.refl _ _) (i := 0) rfl
        have x1 := blk_c H0r.out (Below.refl _ _) (i := 1) rfl
        have x2 := blk_c H0r.out (Below.refl _ _) (i := 2) rfl
        have x3 := blk_c H0r.out (Below.refl _ _) (i := 3) rfl
        have x4 := blk_c H0r.out (Below.refl _ _) (i := 4) rfl
        have x5 := blk_c H0r.out (Below.refl _ _) (i := 5) rfl
        have x6 := blk_c H0r.out (Below.refl _ _) (i := 6) rfl
        have x7 := blk_c H0r.out (Below.refl _ _) (i := 7) rfl
        go_wp2_with fail
        go_quiet (fail)
        go_wp2_with fail
        refine (resolve b v _ _ _ _ rfl rc rm k sh _).mono ?_
        rintro e X3 ⟨rfl, hb3⟩
        have hb3' : Below wr.heap.size wr X3 := (below_drewN (Below.refl _ _) _).trans (hb3.mono (Nat.le_refl _))
        have Ox3 : Hid (OnlyS [f, kg] w X3) := Ow.out.trans (OnlyS.of hb3')
        have H1s : Hid (X3.heap[w.heap.size + 1]? = some (.cells #[.int .i64 0, .slice none 0 0, .int .i64 0, .int .i64 0, .int .i64 0, .int .i64 0, .int .i64 0, .int .i64 0, .bool false, .string ⟨#[]⟩, .int .i64 0, .int .u64 0] 99)) := (hb3'.block _ (heap_lt H1r.out)).trans H1r.out
        have HBS3 : Hid _ := (hb3'.block _ (heap_lt HBS.out)).trans HBS.out
        have HB3 : Hid (FreshAt X3 b nd.1 nd.2.1 nd.2.2 fr) := HBr.out.below hb3'
        have HOW3 : Hid _ := owns_below HOW.out hb3'
        have HK3' : Hid (KeptRow X3 B kg n K) := owns_below HKr.out hb3'
        have HF3' : Hid _ := (hb3'.block _ (heap_lt HFr0.out)).trans HFr0.out
        clear x0 x1 x2 x3 x4 x5 x6 x7 b0 b2 b3 n1 n2 n3 hb3 hb3' HOW HBS HBr HNr H0r H1r HKr HFr0
        go_upto_region 19 with fail
        have hb4 : Below X3.heap.size X3 (X3.alloc (.cells #[.int .i64 (v : Nat), .slice (some ⟨g, 0, none⟩) k cap', .int .i64 rc, .int .i64 rm, .int .i64 k, .int .i64 sh, .int .i64 0, .int .i64 0, .bool false, .string ⟨#[]⟩] 36)) := below_alloc1 _ _
        have HG4 : Hid ((X3.alloc (.cells #[.int .i64 (v : Nat), .slice (some ⟨g, 0, none⟩) k cap', .int .i64 rc, .int .i64 rm, .int .i64 k, .int .i64 sh, .int .i64 0, .int .i64 0, .bool false, .string ⟨#[]⟩] 36)).heap[X3.heap.size]? = some (.cells #[.int .i64 (v : Nat), .slice (some ⟨g, 0, none⟩) k cap', .int .i64 rc, .int .i64 rm, .int .i64 k, .int .i64 sh, .int .i64 0, .int .i64 0, .bool false, .string ⟨#[]⟩] 36)) := heap_alloc_new X3 _
        generalize hX4 : X3.alloc (.cells #[.int .i64 (v : Nat), .slice (some ⟨g, 0, none⟩) k cap', .int .i64 rc, .int .i64 rm, .int .i64 k, .int .i64 sh, .int .i64 0, .int .i64 0, .bool false, .string ⟨#[]⟩] 36) = X4 at *
        clear hX4
        have H1t : Hid (X4.heap[w.heap.size + 1]? = some (.cells #[.int .i64 0, .slice none 0 0, .int .i64 0, .int .i64 0, .int .i64 0, .int .i64 0, .int .i64 0, .int .i64 0, .bool false, .string ⟨#[]⟩, .int .i64 0, .int .u64 0] 99)) := (hb4.block _ (heap_lt H1s.out)).trans H1s.out
        have HBS4 : Hid _ := (hb4.block _ (heap_lt HBS3.out)).trans HBS3.out
        have HOW4 : Hid _ := owns_below HOW3.out hb4
        have HK4 : Hid (KeptRow X4 B kg n K) := owns_below HK3'.out hb4
        have HF4 : Hid _ := (hb4.block _ (heap_lt HF3'.out)).trans HF3'.out
        have Ox4 : Hid (OnlyS [f, kg] w X4) := Ox3.out.trans (OnlyS.of hb4)
        have y2 := blk_r HBS4.out (i := 2) rfl
        have y14 := cell_regrown (HB3.out.below hb4).books.c14
        have g0 := blk_r HG4.out (i := 0) rfl
        have g1 := blk_r HG4.out (i := 1) rfl
        have g2 := blk_r HG4.out (i := 2) rfl
        have g3 := blk_r HG4.out (i := 3) rfl
        have g4 := blk_r HG4.out (i := 4) rfl
        have g5 := blk_r HG4.out (i := 5) rfl
        have g6 := blk_r HG4.out (i := 6) rfl
        have g7 := blk_r HG4.out (i := 7) rfl
        have g8 := blk_r HG4.out (i := 8) rfl
        have g9 := blk_r HG4.out (i := 9) rfl
        clear hb4
        refine wp_region_quiet_list 9 (by kernel_rfl) (by kernel_rfl) (by kernel_rfl) ?_
        simp only [List.take_succ_cons, List.take_zero, List.drop_succ_cons, List.drop_zero]
        repeat (go_big_quiet_step (fail))
        refine wpQuiet_nil ?_
        intro X5 hb5
        clear g0 g1 g2 g3 g4 g5 g6 g7 g8 g9 y2 y14
        have H1u : Hid (X5.heap[w.heap.size + 1]? = some (.cells #[.int .i64 0, .slice none 0 0, .int .i64 0, .int .i64 0, .int .i64 0, .int .i64 0, .int .i64 0, .int .i64 0, .bool false, .string ⟨#[]⟩, .int .i64 0, .int .u64 0] 99)) := (hb5.block _ (heap_lt H1t.out)).trans H1t.out
        refine wpList_store_blk2 rfl 99 _ _ rfl (w.heap.size + 1) _ rfl rfl 99 _ H1u.out (by kernel_rfl) rfl (by simp [Value.oneCell']) ?_
        intro X6 hw6 ho6
        have HW6 : Hid _ := hw6
        clear hw6
        go_wp2_with fail
        have Ox5 : OnlyS [f, kg] w X5 := Ox4.out.trans (OnlyS.of hb5)
        refine bodyPost_ret (results_cell_slot Tryz.results24 _ X6 _ 99 _ (0, 0) _ rfl HW6.out Tryz.underlying99 rfl (by kernel_rfl)) rfl ⟨onlyS_new Ox5 (T := [w.heap.size + 1]) ⟨ho6.2.2.os, ho6.2.2.tape, ho6.2.2.output, by rw [ho6.2.1]; exact Nat.le_refl _, fun q _ hne => ho6.1 q (fun e => hne (by rw [e]; exact List.mem_singleton.2 rfl))⟩ (fun q hq => .inl (by simp only [List.mem_cons, List.not_mem_nil, or_false] at hq; omega)), ⟨td, rfl, (ho6.1 f (by omega)).trans ((hb5.block _ (heap_lt HF4.out)).trans HF4.out)⟩, .inl ⟨t0, v, nd, HVT.out, HND.out, HFIT.out, HNO.out, ⟨K, ?_, HKA.out⟩, g, cap', L, rfl, ?_, HGR.out⟩⟩
        · exact ownsRow_same (owns_below HK4.out hb5) (fun q hq => by cases hq; exact ho6.1 kg (by omega))
        · refine owns_low (ownsRow_same (owns_below HOW4.out hb5) (fun q hq => ho6.1 q ?_)) (by omega)
          have := owns_block HOW4.out q hq
          omega

end Go.Proofs.Qxb6612460aGreatFmt
