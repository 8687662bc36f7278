/-
  choose with findings, again.
-/
import Derived.Test.Qxb6612460aGreatFmtChF
namespace Go.Proofs.Qxb6612460aGreatFmt
open Go.RowKit Go.Sort Go.MuLone
attribute [local go_sem] Option.isNone_none Option.isNone_some
attribute [local go_sem] sUpon mUpon
attribute [local go_sem] Mix.isVal Mix.makes

theorem pickG (b : Nat) (cpu mem rc rm : Int) (k : Nat) (sh : Int) (hr : ReqOk k sh) (across : Bool) (gn : Nat) (fr : List Nat) (w : World) (hB : FreshAt w b cpu mem gn fr) (hc0 : 0 ≤ cpu) (hc1 : cpu ≤ 9223372036854775807) (hm0 : 0 ≤ mem) (hm1 : mem ≤ 9223372036854775807) (hpl : gn ≤ 65536) (hfl : fr.length ≤ 65536) (hF : FrOf (List.replicate gn (0, true)) fr) (hfit : FitN rc rm k (cpu, mem, gn)) :
    Calls Tryz.prog 38 #[.pointer (some ⟨b, 0, none⟩), reqV rc rm k sh, .bool across] w (PickPost w (List.replicate gn (0, true)) k (!across)) := by
  rcases hr with ⟨rfl, h⟩ | ⟨h0, h1, rfl⟩
  · exact pick_yes b cpu mem rc rm k across _ fr w hB.books hc0 hc1 hm0 hm1 h hfl (by rw [List.length_replicate]; exact hpl) hF ((fits_fresh hF _ _ _ _ _ _).2 hfit)
  · exact pick_share b cpu mem rc rm sh across gn fr w hB.books hB.c5 hc0 hc1 hm0 hm1 (by have := hfit.1; have := hfit.2.1; simp only at *; omega) h0 h1 hpl hF (by have := hfit.2.2; simp only at this; omega)
theorem row_of_owns {w : World} {B l c : Nat} {a : Option Addr} {xs : List Value} (h : w.ownsRow B 3 1 (.slice a l c) l xs) : RowAt w a xs := by
  obtain ⟨a', c', e, hr⟩ := owns_slice h
  cases e
  exact hr
/-- What the first decision found. -/
def HitOk (ns : List (Int × Int × Nat)) (vs : List Nat) (rc rm : Int) (k : Nat) : Option Nat → Prop
  | none => NoneN ns vs rc rm k
  | some t0 => ∃ v nd, vs[t0]? = some v ∧ ns[v]? = some nd ∧ FitN rc rm k nd ∧ NoneN ns (vs.take t0) rc rm k
theorem KAfter.again {K : List (Nat × Int)} {vs : List Nat} {hit : Option Nat} {u v : Nat} {x : Nat × Int} (h : KAfter K vs hit) (hv : vs[u]? = some v) (hx : x = (kindOf hit u, 0)) : KAfter (K.set v x) vs hit := by
  have e : K.set v x = K := by
    have h1 := h u v hv
    obtain ⟨hl, h2⟩ := List.getElem?_eq_some_iff.1 h1
    rw [hx, ← h2]
    exact List.set_getElem_self hl
  rw [e]
  exact h
theorem todo_mem {vs : List Nat} {hit : Option Nat} {j v : Nat} (h : (todoTo vs hit vs.length)[j]? = some v) : ∃ t0 u, hit = some t0 ∧ t0 < u ∧ vs[u]? = some v := by
  cases hit with
  | none => simp [todoTo] at h
  | some t0 =>
    simp only [todoTo, List.take_length, List.getElem?_drop] at h
    exact ⟨t0, t0 + 1 + j, rfl, by omega, h⟩

set_option maxRecDepth 100000 in
set_option maxHeartbeats 8000000 in
theorem chooseA (f s m kg n B : Nat) (ns : List (Int × Int × Nat)) (vs : List Nat) (rc rm : Int) (k : Nat) (sh : Int) (across : Bool) (hit : Option Nat) (K0 : List (Nat × Int)) (w : World)
    (hf : w.heap[f]? = some (.cells #[.int .i64 rc, .int .i64 rm, .int .i64 k, .int .i64 sh, .int .i64 0, .int .i64 0, .bool false, .string ⟨#[]⟩, .bool across, .pointer (some ⟨m, 0, none⟩), .slice (some ⟨kg, 0, none⟩) n n, .slice none 0 0, .bool true] 165 (0, 0))) (hK : KeptRow w B kg n K0) (hKA0 : KAfter K0 vs hit) (hho : HitOk ns vs rc rm k hit) (hSH : ∀ z, OnlyS [f, kg] w z → ShelfAt z s m ns vs) (hnn : ns.length = n) (hvl : vs.length ≤ 65536) (hr : ReqOk k sh) (hsf : s ≠ f) (hsk : s ≠ kg) (hfk : f ≠ kg) :
    Calls Tryz.prog 24 #[.pointer (some ⟨s, 0, none⟩), .agg #[.int .i64 rc, .int .i64 rm, .int .i64 k, .int .i64 sh, .int .i64 0, .int .i64 0, .bool false, .string ⟨#[]⟩, .bool across], .pointer (some ⟨f, 0, none⟩)] w (ChoosePostF (fun _ => True) w f m kg n B ns vs rc rm k sh across) := by
  have HKA0 : Hid (KAfter K0 vs hit) := hKA0
  have HHO : Hid (HitOk ns vs rc rm k hit) := hho
  clear hKA0 hho
  have HF : Hid (w.heap[f]? = some (.cells #[.int .i64 rc, .int .i64 rm, .int .i64 k, .int .i64 sh, .int .i64 0, .int .i64 0, .bool false, .string ⟨#[]⟩, .bool across, .pointer (some ⟨m, 0, none⟩), .slice (some ⟨kg, 0, none⟩) n n, .slice none 0 0, .bool true] 165 (0, 0))) := hf
  have HK : Hid (KeptRow w B kg n K0) := hK
  have HSH : Hid (∀ z, OnlyS [f, kg] w z → ShelfAt z s m ns vs) := hSH
  have HRQ : Hid (ReqOk k sh) := hr
  have HSw : Hid (ShelfAt w s m ns vs) := hSH w (OnlyS.refl _ _)
  obtain ⟨va, vc, v1, -⟩ := HSw.out.visit
  have lts := cell_lt v1
  simp only at lts
  have hlf := heap_lt hf
  have hlk := ownsRow_lt hK kg rfl
  have hsS : s ∉ [f, kg] := by simp only [List.mem_cons, List.not_mem_nil, or_false, not_or]; exact ⟨hsf, hsk⟩
  have nfk : ∀ q, w.heap.size ≤ q → q ∉ [f, kg] := fun q hq => by simp only [List.mem_cons, List.not_mem_nil, or_false, not_or]; exact ⟨by omega, by omega⟩
  clear hf hK hSH hr
  have q23 : ∀ (w : World) (g n c : Nat), (binOp .eql 23 (.slice (some ⟨g, 0, none⟩) n c) (.slice none 0 0)).run Tryz.prog w = .ok (.bool false) w := fun w g n c => Lib.run_eql_slice_nil w _ _ (some _) n c 0 0 Tryz.underlying23
  have q23' : ∀ (w : World), (binOp .eql 23 (.slice none 0 0) (.slice none 0 0)).run Tryz.prog w = .ok (.bool true) w := fun w => Lib.run_eql_slice_nil w _ _ none 0 0 0 0 Tryz.underlying23
  go_enter Tryz.func24, Tryz.ntmps24
  have hb0 : Below w.heap.size w ((w.alloc (.cells #[.int .i64 rc, .int .i64 rm, .int .i64 k, .int .i64 sh, .int .i64 0, .int .i64 0, .bool false, .string ⟨#[]⟩, .bool across] 104)).alloc (.cells #[.int .i64 0, .slice none 0 0, .int .i64 0, .int .i64 0, .int .i64 0, .int .i64 0, .int .i64 0, .int .i64 0, .bool false, .string ⟨#[]⟩, .int .i64 0, .int .u64 0] 99)) := (below_alloc1 _ _).alloc (by simp) _
  have H0 : Hid (((w.alloc (.cells #[.int .i64 rc, .int .i64 rm, .int .i64 k, .int .i64 sh, .int .i64 0, .int .i64 0, .bool false, .string ⟨#[]⟩, .bool across] 104)).alloc (.cells #[.int .i64 0, .slice none 0 0, .int .i64 0, .int .i64 0, .int .i64 0, .int .i64 0, .int .i64 0, .int .i64 0, .bool false, .string ⟨#[]⟩, .int .i64 0, .int .u64 0] 99)).heap[w.heap.size]? = some (.cells #[.int .i64 rc, .int .i64 rm, .int .i64 k, .int .i64 sh, .int .i64 0, .int .i64 0, .bool false, .string ⟨#[]⟩, .bool across] 104)) := by
    show _ = _
    rw [heap_alloc_old _ _ (by simp), heap_alloc_new]
  have H1 : Hid (((w.alloc (.cells #[.int .i64 rc, .int .i64 rm, .int .i64 k, .int .i64 sh, .int .i64 0, .int .i64 0, .bool false, .string ⟨#[]⟩, .bool across] 104)).alloc (.cells #[.int .i64 0, .slice none 0 0, .int .i64 0, .int .i64 0, .int .i64 0, .int .i64 0, .int .i64 0, .int .i64 0, .bool false, .string ⟨#[]⟩, .int .i64 0, .int .u64 0] 99)).heap[w.heap.size + 1]? = some (.cells #[.int .i64 0, .slice none 0 0, .int .i64 0, .int .i64 0, .int .i64 0, .int .i64 0, .int .i64 0, .int .i64 0, .bool false, .string ⟨#[]⟩, .int .i64 0, .int .u64 0] 99)) := heap_alloc2_new w _ _
  go_wp2_with fail
  generalize hW : (w.alloc (.cells #[.int .i64 rc, .int .i64 rm, .int .i64 k, .int .i64 sh, .int .i64 0, .int .i64 0, .bool false, .string ⟨#[]⟩, .bool across] 104)).alloc (.cells #[.int .i64 0, .slice none 0 0, .int .i64 0, .int .i64 0, .int .i64 0, .int .i64 0, .int .i64 0, .int .i64 0, .bool false, .string ⟨#[]⟩, .int .i64 0, .int .u64 0] 99) = W at *
  clear hW
  have HNW : Hid (ShelfAt W s m ns vs) := HSH.out W (OnlyS.of hb0)
  refine (decidingG s m rc rm k sh HRQ.out across W HNW.out.mixp HNW.out.mix).mono ?_
  rintro e W1 ⟨rfl, hb1⟩
  have l0 := hb0.size
  have hbA : Below w.heap.size w W1 := hb0.trans (hb1.mono l0)
  have H0' : Hid (W1.heap[w.heap.size]? = some (.cells #[.int .i64 rc, .int .i64 rm, .int .i64 k, .int .i64 sh, .int .i64 0, .int .i64 0, .bool false, .string ⟨#[]⟩, .bool across] 104)) := (hb1.block _ (heap_lt H0.out)).trans H0.out
  have H1' : Hid (W1.heap[w.heap.size + 1]? = some (.cells #[.int .i64 0, .slice none 0 0, .int .i64 0, .int .i64 0, .int .i64 0, .int .i64 0, .int .i64 0, .int .i64 0, .bool false, .string ⟨#[]⟩, .int .i64 0, .int .u64 0] 99)) := (hb1.block _ (heap_lt H1.out)).trans H1.out
  have l1 := heap_lt H1'.out
  clear hb1 hb0 H0 H1 HNW l0
  go_upto_region 3 with fail
  have hb2 : Below W1.heap.size W1 ((W1.alloc (.cells #[.int .i64 rc, .int .i64 rm, .int .i64 k, .int .i64 sh, .int .i64 0, .int .i64 0, .bool false, .string ⟨#[]⟩, .bool across, .int .i64 (-1), .bool false, .int .i64 (milG k sh)] 121)).alloc (.cells #[.int .i64 (-1), .int .u8 0, .int .i64 0, .slice none 0 0] 127)) := (below_alloc1 _ _).alloc (by simp) _
  have HQ : Hid (((W1.alloc (.cells #[.int .i64 rc, .int .i64 rm, .int .i64 k, .int .i64 sh, .int .i64 0, .int .i64 0, .bool false, .string ⟨#[]⟩, .bool across, .int .i64 (-1), .bool false, .int .i64 (milG k sh)] 121)).alloc (.cells #[.int .i64 (-1), .int .u8 0, .int .i64 0, .slice none 0 0] 127)).heap[W1.heap.size]? = some (.cells #[.int .i64 rc, .int .i64 rm, .int .i64 k, .int .i64 sh, .int .i64 0, .int .i64 0, .bool false, .string ⟨#[]⟩, .bool across, .int .i64 (-1), .bool false, .int .i64 (milG k sh)] 121)) := by
    show _ = _
    rw [heap_alloc_old _ _ (by simp), heap_alloc_new]
  have HBE : Hid (((W1.alloc (.cells #[.int .i64 rc, .int .i64 rm, .int .i64 k, .int .i64 sh, .int .i64 0, .int .i64 0, .bool false, .string ⟨#[]⟩, .bool across, .int .i64 (-1), .bool false, .int .i64 (milG k sh)] 121)).alloc (.cells #[.int .i64 (-1), .int .u8 0, .int .i64 0, .slice none 0 0] 127)).heap[W1.heap.size + 1]? = some (.cells #[.int .i64 (-1), .int .u8 0, .int .i64 0, .slice none 0 0] 127)) := heap_alloc2_new W1 _ _
  have hsz2 : ((W1.alloc (.cells #[.int .i64 rc, .int .i64 rm, .int .i64 k, .int .i64 sh, .int .i64 0, .int .i64 0, .bool false, .string ⟨#[]⟩, .bool across, .int .i64 (-1), .bool false, .int .i64 (milG k sh)] 121)).alloc (.cells #[.int .i64 (-1), .int .u8 0, .int .i64 0, .slice none 0 0] 127)).heap.size = W1.heap.size + 2 := by simp
  generalize hW2 : (W1.alloc (.cells #[.int .i64 rc, .int .i64 rm, .int .i64 k, .int .i64 sh, .int .i64 0, .int .i64 0, .bool false, .string ⟨#[]⟩, .bool across, .int .i64 (-1), .bool false, .int .i64 (milG k sh)] 121)).alloc (.cells #[.int .i64 (-1), .int .u8 0, .int .i64 0, .slice none 0 0] 127) = W2 at *
  clear hW2
  have hbB : Below w.heap.size w W2 := hbA.trans (hb2.mono hbA.size)
  have H0b : Hid (W2.heap[w.heap.size]? = some (.cells #[.int .i64 rc, .int .i64 rm, .int .i64 k, .int .i64 sh, .int .i64 0, .int .i64 0, .bool false, .string ⟨#[]⟩, .bool across] 104)) := (hb2.block _ (heap_lt H0'.out)).trans H0'.out
  have H1b : Hid (W2.heap[w.heap.size + 1]? = some (.cells #[.int .i64 0, .slice none 0 0, .int .i64 0, .int .i64 0, .int .i64 0, .int .i64 0, .int .i64 0, .int .i64 0, .bool false, .string ⟨#[]⟩, .int .i64 0, .int .u64 0] 99)) := (hb2.block _ (heap_lt H1'.out)).trans H1'.out
  have HS2 : Hid (ShelfAt W2 s m ns vs) := HSH.out W2 (OnlyS.of hbB)
  have V1 : Hid (W2.cell? ⟨s, 3, none⟩ = some (.slice va vs.length vc)) := (hbB.cell (p := ⟨s, 3, none⟩) lts).trans v1
  have HF2 : Hid _ := (hbB.block f hlf).trans HF.out
  have HK2 : Hid (KeptRow W2 B kg n K0) := owns_below HK.out hbB
  clear hb2 hbA H0' H1' v1
  have hQlt : W1.heap.size < W2.heap.size := by omega
  go_wp2_with fail
  refine (recalledA f s m (W1.heap.size + 1) kg n rc rm k sh across ns vs hit B K0 W2 HF2.out HK2.out HKA0.out HBE.out (fun z hz => HSH.out z (onlyS_new (OnlyS.of hbB) hz (fun q hq => by simp only [List.mem_cons, List.not_mem_nil, or_false] at hq ⊢; rcases hq with rfl | rfl; exact .inr (.inl rfl); exact .inl (by omega)))) hnn hvl hsf (by omega) (by omega) (Ne.symm hfk) (by omega)).mono ?_
  rintro e W3 ⟨td, rfl, ho3, hc3, hf3, ht3⟩
  have O3 : Hid (OnlyS [f, kg] w W3) := onlyS_new (OnlyS.of hbB) ho3 (fun q hq => by simp only [List.mem_cons, List.not_mem_nil, or_false] at hq ⊢; rcases hq with rfl | rfl; exact .inr (.inl rfl); exact .inl (by omega))
  have nfc : ∀ q, w.heap.size ≤ q → q ≠ W1.heap.size + 1 → q ∉ [f, W1.heap.size + 1] := fun q h1 h2 => by simp only [List.mem_cons, List.not_mem_nil, or_false, not_or]; exact ⟨by omega, h2⟩
  have HQ3 : Hid (W3.heap[W1.heap.size]? = some (.cells #[.int .i64 rc, .int .i64 rm, .int .i64 k, .int .i64 sh, .int .i64 0, .int .i64 0, .bool false, .string ⟨#[]⟩, .bool across, .int .i64 (-1), .bool false, .int .i64 (milG k sh)] 121)) := ho3.blk HQ.out (nfc _ (by omega) (by omega))
  have H0c : Hid (W3.heap[w.heap.size]? = some (.cells #[.int .i64 rc, .int .i64 rm, .int .i64 k, .int .i64 sh, .int .i64 0, .int .i64 0, .bool false, .string ⟨#[]⟩, .bool across] 104)) := ho3.blk H0b.out (nfc _ (by omega) (by omega))
  have H1c : Hid (W3.heap[w.heap.size + 1]? = some (.cells #[.int .i64 0, .slice none 0 0, .int .i64 0, .int .i64 0, .int .i64 0, .int .i64 0, .int .i64 0, .int .i64 0, .bool false, .string ⟨#[]⟩, .int .i64 0, .int .u64 0] 99)) := ho3.blk H1b.out (nfc _ (by omega) (by omega))
  have HC3 : Hid (W3.heap[W1.heap.size + 1]? = some (.cells (bestC vs hit vs.length) 127 (0, 0))) := hc3
  have HF3 : Hid (W3.heap[f]? = some (.cells #[.int .i64 rc, .int .i64 rm, .int .i64 k, .int .i64 sh, .int .i64 0, .int .i64 0, .bool false, .string ⟨#[]⟩, .bool across, .pointer (some ⟨m, 0, none⟩), .slice (some ⟨kg, 0, none⟩) n n, td, .bool true] 165 (0, 0))) := hf3
  have HK3 : Hid (KeptRow W3 B kg n K0) := ho3.owns HK2.out (fun q hq => by cases hq; simp only [List.mem_cons, List.not_mem_nil, or_false, not_or]; exact ⟨Ne.symm hfk, by omega⟩)
  obtain ⟨ta, tc, htd, -⟩ := owns_slice ht3
  have HT3 : Hid (W3.ownsRow W2.heap.size 3 1 td (todoTo vs hit vs.length).length ((todoTo vs hit vs.length).map natV)) := ht3
  subst htd
  have hs3 : W1.heap.size + 2 ≤ W3.heap.size := by have := ho3.size; omega
  have nkg : ∀ q, w.heap.size ≤ q → q ∉ [kg] := fun q h1 => by simp only [List.mem_cons, List.not_mem_nil, or_false]; omega
  have hfK : f ∉ [kg] := by simp only [List.mem_cons, List.not_mem_nil, or_false]; exact hfk
  have hul := todoTo_length vs hit vs.length
  clear ho3 hc3 hf3 ht3 HQ HBE H0b H1b HF2 HK2 HS2 hbB V1 HK
  go_wp2_with fail
  go_loopw [26] (fun iv wr => ∃ t : Nat, t ≤ (todoTo vs hit vs.length).length ∧ iv = .int .i64 t ∧ Hid (OnlyS [kg] W3 wr ∧ ∃ K, KeptRow wr B kg n K ∧ KAfter K vs hit)) (fun iv _ => (todoTo vs hit vs.length).length - (intOf iv).toNat)
  case atStart => exact ⟨0, Nat.zero_le _, rfl, OnlyS.refl _ _, K0, HK3.out, HKA0.out⟩
  case round =>
    obtain ⟨t, ht, rfl, hR⟩ := hrel
    have Ow : Hid (OnlyS [f, kg] w wr) := onlyS_new O3.out hR.out.1 (fun q hq => by simp only [List.mem_cons, List.not_mem_nil, or_false] at hq ⊢; exact .inr (.inr hq))
    have HSr : Hid (ShelfAt wr s m ns vs) := HSH.out wr Ow.out
    have HFr0 : Hid (wr.heap[f]? = some (.cells #[.int .i64 rc, .int .i64 rm, .int .i64 k, .int .i64 sh, .int .i64 0, .int .i64 0, .bool false, .string ⟨#[]⟩, .bool across, .pointer (some ⟨m, 0, none⟩), .slice (some ⟨kg, 0, none⟩) n n, .slice ta (todoTo vs hit vs.length).length tc, .bool true] 165 (0, 0))) := hR.out.1.blk HF3.out hfK
    have HQr : Hid (wr.heap[W1.heap.size]? = some (.cells #[.int .i64 rc, .int .i64 rm, .int .i64 k, .int .i64 sh, .int .i64 0, .int .i64 0, .bool false, .string ⟨#[]⟩, .bool across, .int .i64 (-1), .bool false, .int .i64 (milG k sh)] 121)) := hR.out.1.blk HQ3.out (nkg _ (by omega))
    have HCr : Hid (wr.heap[W1.heap.size + 1]? = some (.cells (bestC vs hit vs.length) 127 (0, 0))) := hR.out.1.blk HC3.out (nkg _ (by omega))
    by_cases htl : t < (todoTo vs hit vs.length).length
    · obtain ⟨v, hvt'⟩ : ∃ v, (todoTo vs hit vs.length)[t]? = some v := ⟨(todoTo vs hit vs.length)[t], List.getElem?_eq_getElem htl⟩
      obtain ⟨t0, u, hhit, htu, hvu⟩ := todo_mem hvt'
      have HVU : Hid (vs[u]? = some v) := hvu
      have HHI : Hid (hit = some t0) := hhit
      obtain ⟨vg, vo, hva, hvc⟩ := (row_of_owns HT3.out) t (natV v) (by rw [List.getElem?_map, hvt']; rfl)
      have hvgb : W2.heap.size ≤ vg := by have := owns_block HT3.out vg (by rw [hva]; rfl); omega
      have vcell : wr.cell? ⟨vg, vo + t, none⟩ = some (.int .i64 (v : Nat)) := hR.out.1.cell hvc (nkg _ (by simp only; omega))
      subst hva
      have hvn : v < n := by rw [← hnn]; exact HSr.out.inv v (List.mem_of_getElem? hvu)
      obtain ⟨nd, hnd'⟩ : ∃ nd, ns[v]? = some nd := ⟨ns[v]'(by omega), List.getElem?_eq_getElem _⟩
      obtain ⟨b, fr, hNA, hFA, -⟩ := HSr.out.node v nd hnd'
      have HNA : Hid (NodeAt wr s m v b) := hNA
      have HFA : Hid (FreshAt wr b nd.1 nd.2.1 nd.2.2 fr) := hFA
      have n14 := hFA.books.c14
      obtain ⟨ng, no, nl, cap, n1, n2, n3⟩ := hNA.nodes
      obtain ⟨v0, nd0, hv0, hnd0, -, -⟩ : ∃ v0 nd0, vs[t0]? = some v0 ∧ ns[v0]? = some nd0 ∧ FitN rc rm k nd0 ∧ NoneN ns (vs.take t0) rc rm k := by have := HHO.out; rw [hhit] at this; exact this
      have hle : v0 ≤ v := Nat.le_of_lt (HSr.out.sorted' hv0 hvu htu)
      have HBEr : Hid (wr.heap[W1.heap.size + 1]? = some (.cells #[.int .i64 (v0 : Nat), .int .u8 2, .int .i64 0, .slice none 0 0] 127)) := by
        have h1 := HCr.out
        have h2 : t0 < vs.length := (List.getElem?_eq_some_iff.1 hv0).1
        have e : bestC vs hit vs.length = #[.int .i64 (v0 : Nat), .int .u8 2, .int .i64 0, .slice none 0 0] := by rw [hhit]; simp only [bestC]; rw [if_neg (by omega), hv0]; rfl
        rw [e] at h1
        exact h1
      obtain ⟨hrb, K, hKr, hKt⟩ := hR.out
      have HKr : Hid (KeptRow wr B kg n K) := hKr
      have HKt : Hid (KAfter K vs hit) := hKt
      have HK3v : Hid (K[v]? = some (3, 0)) := by have := hKt u v hvu; rw [hhit, kind_gt htu] at this; exact this
      have hrB : Hid _ := hrb
      have hlkr : kg < wr.heap.size := ownsRow_lt hKr kg rfl
      have hgb : W1.heap.size + 1 ≠ kg := by omega
      clear hvt' hvu hhit hvc hNA hFA hnd' hv0 hnd0 hR hKr hKt hrb
      go_wp2_with fail
      refine (leastF3 f v kg n _ B K wr HFr0.out rfl HKr.out hvn HK3v.out).mono ?_
      rintro e w' ⟨rfl, rfl⟩
      go_wp2_with fail
      refine (try_late0 s m v b W1.heap.size (W1.heap.size + 1) v0 nd.1 nd.2.1 rc rm k sh (milG k sh) across _ fr wr HNA.out HFA.out.books HQr.out (blk_c HBEr.out (Below.refl _ _) (i := 0) rfl) (blk_c HBEr.out (Below.refl _ _) (i := 1) rfl) (blk_c HBEr.out (Below.refl _ _) (i := 2) rfl) (by omega) (by omega)).mono ?_
      rintro e X3 ⟨rfl, hb3⟩
      clear n14 n1 n2 n3 vcell
      have l3 := hb3.size
      go_wp2_with fail
      have hb4 : Below X3.heap.size X3 (X3.alloc (.cells #[.int .u8 3, .int .i64 0] 125)) := below_alloc1 _ _
      have HT4 : Hid ((X3.alloc (.cells #[.int .u8 3, .int .i64 0] 125)).heap[X3.heap.size]? = some (.cells #[.int .u8 3, .int .i64 0] 125)) := heap_alloc_new X3 _
      generalize hX4 : X3.alloc (.cells #[.int .u8 3, .int .i64 0] 125) = X4 at *
      clear hX4
      have hb24 : Below wr.heap.size wr X4 := hb3.trans (hb4.mono l3)
      have HF4 : Hid _ := (hb24.block _ (heap_lt HFr0.out)).trans HFr0.out
      have HK4 : Hid (KeptRow X4 B kg n K) := owns_below HKr.out hb24
      refine (keepF f v kg n 3 0 _ B K X4 HF4.out rfl HK4.out hvn).mono ?_
      rintro e X5 ⟨rfl, ho5, hk5⟩
      have HK5 : Hid (KeptRow X5 B kg n (K.set v (3, 0))) := hk5
      have n1k : ∀ q, wr.heap.size ≤ q → q ∉ [kg] := fun q hq => by simp only [List.mem_cons, List.not_mem_nil, or_false]; omega
      have HT5 : Hid (X5.heap[X3.heap.size]? = some (.cells #[.int .u8 3, .int .i64 0] 125)) := ho5.blk HT4.out (n1k _ l3)
      have t0 := blk_c HT5.out (Below.refl _ _) (i := 0) rfl
      have t1 := blk_c HT5.out (Below.refl _ _) (i := 1) rfl
      have o25 : OnlyS [kg] wr X5 := (OnlyS.of hb24).trans ho5
      have ho35 : OnlyS [kg] X3 X5 := (OnlyS.of hb4).trans ho5
      have HBE5 : Hid _ := o25.blk HBEr.out (by simp only [List.mem_cons, List.not_mem_nil, or_false]; exact hgb)
      clear hb4 ho5 hk5 HT4 hb24 HF4 HK4
      go_wp2_with fail
      refine (beaten_no (W1.heap.size + 1) v 3 0 X5 (by decide) (by decide)).mono ?_
      rintro e X6 ⟨rfl, hb6⟩
      have HT6 : Hid (X6.heap[X3.heap.size]? = some (.cells #[.int .u8 3, .int .i64 0] 125)) := (hb6.block _ (heap_lt HT5.out)).trans HT5.out
      have HBE6 : Hid _ := (hb6.block _ (heap_lt HBE5.out)).trans HBE5.out
      have o26 : Hid (OnlyS [kg] wr X6) := o25.trans (OnlyS.of hb6)
      have o36 : Hid (OnlyS [kg] X3 X6) := ho35.trans (OnlyS.of hb6)
      have HK6 : Hid (KeptRow X6 B kg n (K.set v (3, 0))) := owns_below HK5.out hb6
      clear hb6 o25 ho35 HT5 HBE5 HK5 t0 t1
      have t0 := blk_c HT6.out (Below.refl _ _) (i := 0) rfl
      have t1 := blk_c HT6.out (Below.refl _ _) (i := 1) rfl
      have HRR : Hid (OnlyS [kg] W3 X6 ∧ ∃ K, KeptRow X6 B kg n K ∧ KAfter K vs hit) := ⟨hrB.out.trans o26.out, K.set v (3, 0), HK6.out, HKt.out.again HVU.out (by rw [HHI.out, kind_gt htu])⟩
      go_wp2_with fail
      go_roundw
      case rel => first | exact ⟨t + 1, by omega, by go_num, HRR.out⟩ | ((repeat apply Exists.intro); exact ⟨⟨t + 1, by omega, by go_num, HRR.out⟩, rfl⟩)
      case measure => simp [intOf]; omega
    · obtain rfl : t = (todoTo vs hit vs.length).length := by omega
      have H0r : Hid (wr.heap[w.heap.size]? = some (.cells #[.int .i64 rc, .int .i64 rm, .int .i64 k, .int .i64 sh, .int .i64 0, .int .i64 0, .bool false, .string ⟨#[]⟩, .bool across] 104)) := hR.out.1.blk H0c.out (nkg _ (by omega))
      have H1r : Hid (wr.heap[w.heap.size + 1]? = some (.cells #[.int .i64 0, .slice none 0 0, .int .i64 0, .int .i64 0, .int .i64 0, .int .i64 0, .int .i64 0, .int .i64 0, .bool false, .string ⟨#[]⟩, .int .i64 0, .int .u64 0] 99)) := hR.out.1.blk H1c.out (nkg _ (by omega))
      obtain ⟨hbr, K, hKr, hKt⟩ := hR.out
      have HKr : Hid (KeptRow wr B kg n K) := hKr
      cases hit with
      | none =>
        have HFI : Hid (NoneN ns vs rc rm k) := HHO.out
        have HKA : Hid (KAfter K vs none) := hKt
        have HBS : Hid (wr.heap[W1.heap.size + 1]? = some (.cells #[.int .i64 (-1), .int .u8 0, .int .i64 0, .slice none 0 0] 127)) := HCr.out
        have b0 := blk_c HBS.out (Below.refl _ _) (i := 0) rfl
        clear hR hKr hKt hbr
        go_wp2_with (refine wpList_store_blk2 rfl 99 _ _ rfl (w.heap.size + 1) _ rfl rfl 99 _ H1r.out (by kernel_rfl) rfl (by simp [Value.oneCell']) ?_; intro X6 hw6 ho6; have HW6 : Hid _ := hw6; clear hw6)
        refine bodyPost_ret (results_cell_slot Tryz.results24 _ X6 _ 99 _ (0, 0) _ rfl HW6.out Tryz.underlying99 rfl (by kernel_rfl)) rfl ⟨onlyS_new Ow.out (T := [w.heap.size + 1]) ⟨ho6.2.2.os, ho6.2.2.tape, ho6.2.2.output, by rw [ho6.2.1]; exact Nat.le_refl _, fun q _ hne => ho6.1 q (fun e => hne (by rw [e]; exact List.mem_singleton.2 rfl))⟩ (fun q hq => .inl (by simp only [List.mem_cons, List.not_mem_nil, or_false] at hq; omega)), ⟨_, trivial, (ho6.1 f (by omega)).trans HFr0.out⟩, .inr ⟨HFI.out, ⟨K, ?_, HKA.out⟩, rfl⟩⟩
        exact ownsRow_same HKr.out (fun q hq => by cases hq; exact ho6.1 kg (by omega))
      | some t0 =>
        obtain ⟨v, nd, hvt, hnd, hfit, hno⟩ := HHO.out
        have HVT : Hid (vs[t0]? = some v) := hvt
        have HND : Hid (ns[v]? = some nd) := hnd
        have HFIT : Hid (FitN rc rm k nd) := hfit
        have HNO : Hid (NoneN ns (vs.take t0) rc rm k) := hno
        have HKA : Hid (KAfter K vs (some t0)) := hKt
        have HBS0 : Hid (wr.heap[W1.heap.size + 1]? = some (.cells #[.int .i64 (v : Nat), .int .u8 2, .int .i64 0, .slice none 0 0] 127)) := by
          have h1 := HCr.out
          have h2 : t0 < vs.length := (List.getElem?_eq_some_iff.1 hvt).1
          have e : bestC vs (some t0) vs.length = #[.int .i64 (v : Nat), .int .u8 2, .int .i64 0, .slice none 0 0] := by simp only [bestC]; rw [if_neg (by omega), hvt]; rfl
          rw [e] at h1
          exact h1
        have b0 := blk_c HBS0.out (Below.refl _ _) (i := 0) rfl
        have b2 := blk_c HBS0.out (Below.refl _ _) (i := 2) rfl
        have b3 := blk_c HBS0.out (Below.refl _ _) (i := 3) rfl
        have HNr : Hid (ShelfAt wr s m ns vs) := HSr.out
        obtain ⟨b, fr, hNA, hFA, hFr, hFl⟩ := HNr.out.node v nd hnd
        have HBr : Hid (FreshAt wr b nd.1 nd.2.1 nd.2.2 fr) := hFA
        have HFr : Hid (FrOf (List.replicate nd.2.2 (0, true)) fr) := hFr
        have HBNE : Hid (b ≠ W1.heap.size + 1) := fun e => by
          have h := hFA.books.c14
          rw [e, cell_of_row wr (W1.heap.size + 1) 14 _ 127 (0, 0) HBS0.out] at h
          simp at h
        have HFl : Hid (fr.length ≤ 65536) := hFl
        have HBD : Hid (0 ≤ nd.1 ∧ nd.1 ≤ 9223372036854775807 ∧ 0 ≤ nd.2.1 ∧ nd.2.1 ≤ 9223372036854775807 ∧ nd.2.2 ≤ 65536) := HNr.out.bound nd (List.mem_of_getElem? hnd)
        obtain ⟨ng, no, nl, cap, n1, n2, n3⟩ := hNA.nodes
        have hvneg : decide ((v : Int) < 0) = false := by simp
        clear hNA hFA hnd hvt hfit hno hR hKr hKt hbr hFr hFl HCr
        have x0 := blk_c H0r.out (Below.refl _ _) (i := 0) rfl
        have x1 := blk_c H0r.out (Below.refl _ _) (i := 1) rfl
        have x2 := blk_c H0r.out (Below.refl _ _) (i := 2) rfl
        have x3 := blk_c H0r.out (Below.refl _ _) (i := 3) rfl
        have x4 := blk_c H0r.out (Below.refl _ _) (i := 4) rfl
        have x5 := blk_c H0r.out (Below.refl _ _) (i := 5) rfl
        have x6 := blk_c H0r.out (Below.refl _ _) (i := 6) rfl
        have x7 := blk_c H0r.out (Below.refl _ _) (i := 7) rfl
        have x8 := blk_c H0r.out (Below.refl _ _) (i := 8) rfl
        go_wp2_with fail
        go_quiet (fail)
        go_wp2_with fail
        refine (pickG b nd.1 nd.2.1 rc rm k sh HRQ.out across nd.2.2 fr (wr.drewN _) (HBr.out.below (below_drewN (Below.refl _ _) _)) HBD.out.1 HBD.out.2.1 HBD.out.2.2.1 HBD.out.2.2.2.1 HBD.out.2.2.2.2 HFl.out HFr.out HFIT.out).mono ?_
        rintro e X1 ⟨⟨g, cap', L, rfl, hown, hgr⟩, hbe⟩
        have HGR : Hid _ := hgr
        have hbx : Below wr.heap.size wr X1 := ⟨hbe.os, hbe.tape, hbe.output, hbe.size, hbe.block⟩
        have HOW1 : Hid (X1.ownsRow wr.heap.size 3 1 (.slice (some ⟨g, 0, none⟩) k cap') k (L.map natV)) := hown
        have HBS1 : Hid (X1.heap[W1.heap.size + 1]? = some (.cells #[.int .i64 (v : Nat), .int .u8 2, .int .i64 0, .slice none 0 0] 127)) := (hbx.block _ (heap_lt HBS0.out)).trans HBS0.out
        have d3 := blk_c HBS1.out (Below.refl _ _) (i := 3) rfl
        have e3 := blk_f HBS1.out (Below.refl _ _) 3
        have HBS : Hid ((X1.setCell ⟨W1.heap.size + 1, 3, none⟩ (.slice (some ⟨g, 0, none⟩) k cap')).heap[W1.heap.size + 1]? = some (.cells #[.int .i64 (v : Nat), .int .u8 2, .int .i64 0, (.slice (some ⟨g, 0, none⟩) k cap')] 127 (0, 0))) := setCell_blk HBS1.out _
        have oo : Hid (∀ q, q < wr.heap.size → q ≠ W1.heap.size + 1 → (X1.setCell ⟨W1.heap.size + 1, 3, none⟩ (.slice (some ⟨g, 0, none⟩) k cap')).heap[q]? = wr.heap[q]?) := fun q hq hne => (Below.heap_setCell _ _ _ _ hne).trans (hbx.block q hq)
        have Owx : Hid (OnlyS [f, kg] w (X1.setCell ⟨W1.heap.size + 1, 3, none⟩ (.slice (some ⟨g, 0, none⟩) k cap'))) := (Ow.out.trans (OnlyS.of hbx)).setCell (.inr (by simp only; omega)) _
        have hgw : W1.heap.size + 1 < wr.heap.size := heap_lt HBS0.out
        have HOWx : Hid ((X1.setCell ⟨W1.heap.size + 1, 3, none⟩ (.slice (some ⟨g, 0, none⟩) k cap')).ownsRow wr.heap.size 3 1 (.slice (some ⟨g, 0, none⟩) k cap') k (L.map natV)) := owns_setCell HOW1.out (fun q hq => by have := owns_block HOW1.out q hq; simp only; omega)
        clear hgr hbe hown x0 x1 x2 x3 x4 x5 x6 x7 x8 b0 b2 b3 n1 n2 n3
        go_upto_region 18 with fail
        generalize hWX : X1.setCell ⟨W1.heap.size + 1, 3, none⟩ (.slice (some ⟨g, 0, none⟩) k cap') = wx at *
        clear hWX d3 e3 hbx HBS1 HOW1 HBS0
        have hlb : b < wr.heap.size := cell_lt HBr.out.c1
        have H0x : Hid (wx.heap[w.heap.size]? = some (.cells #[.int .i64 rc, .int .i64 rm, .int .i64 k, .int .i64 sh, .int .i64 0, .int .i64 0, .bool false, .string ⟨#[]⟩, .bool across] 104)) := (oo.out _ (heap_lt H0r.out) (by omega)).trans H0r.out
        have H1x : Hid (wx.heap[w.heap.size + 1]? = some (.cells #[.int .i64 0, .slice none 0 0, .int .i64 0, .int .i64 0, .int .i64 0, .int .i64 0, .int .i64 0, .int .i64 0, .bool false, .string ⟨#[]⟩, .int .i64 0, .int .u64 0] 99)) := (oo.out _ (heap_lt H1r.out) (by omega)).trans H1r.out
        have HFx0 : Hid _ := (oo.out f (by have := heap_lt HFr0.out; omega) (by omega)).trans HFr0.out
        have HKx : Hid (KeptRow wx B kg n K) := ownsRow_same HKr.out (fun q hq => by cases hq; exact oo.out kg (ownsRow_lt HKr.out kg rfl) (by omega))
        have hbne : b ≠ W1.heap.size + 1 := HBNE.out
        have C14 : Hid (wx.cell? ⟨b, 14, none⟩ = some (.int .u64 0)) := by
          have h := HBr.out.books.c14
          unfold World.cell? at h ⊢
          rw [oo.out b hlb hbne]
          exact h
        have b0 := blk_c HBS.out (Below.refl _ _) (i := 0) rfl
        have b2 := blk_c HBS.out (Below.refl _ _) (i := 2) rfl
        have b3 := blk_c HBS.out (Below.refl _ _) (i := 3) rfl
        have x0 := blk_c H0x.out (Below.refl _ _) (i := 0) rfl
        have x1 := blk_c H0x.out (Below.refl _ _) (i := 1) rfl
        have x2 := blk_c H0x.out (Below.refl _ _) (i := 2) rfl
        have x3 := blk_c H0x.out (Below.refl _ _) (i := 3) rfl
        have x4 := blk_c H0x.out (Below.refl _ _) (i := 4) rfl
        have x5 := blk_c H0x.out (Below.refl _ _) (i := 5) rfl
        have x6 := blk_c H0x.out (Below.refl _ _) (i := 6) rfl
        have x7 := blk_c H0x.out (Below.refl _ _) (i := 7) rfl
        clear H0r H1r HFr0 HKr HBr HNr HSr Ow
        go_wp2_with fail
        refine (resolve b v _ _ _ _ rfl rc rm k sh _).mono ?_
        rintro e X3 ⟨rfl, hb3⟩
        have hb3' : Below wx.heap.size wx X3 := hb3
        clear hb3
        have Ox3 : Hid (OnlyS [f, kg] w X3) := Owx.out.trans (OnlyS.of hb3')
        have H1s : Hid (X3.heap[w.heap.size + 1]? = some (.cells #[.int .i64 0, .slice none 0 0, .int .i64 0, .int .i64 0, .int .i64 0, .int .i64 0, .int .i64 0, .int .i64 0, .bool false, .string ⟨#[]⟩, .int .i64 0, .int .u64 0] 99)) := (hb3'.block _ (heap_lt H1x.out)).trans H1x.out
        have HBS3 : Hid _ := (hb3'.block _ (heap_lt HBS.out)).trans HBS.out
        have C14x : Hid (X3.cell? ⟨b, 14, none⟩ = some (.int .u64 0)) := (hb3'.cell (cell_lt C14.out)).trans C14.out
        have HOW3 : Hid _ := owns_below HOWx.out hb3'
        have HK3' : Hid (KeptRow X3 B kg n K) := owns_below HKx.out hb3'
        have HF3' : Hid _ := (hb3'.block _ (heap_lt HFx0.out)).trans HFx0.out
        clear x0 x1 x2 x3 x4 x5 x6 x7 b0 b2 b3 hb3' HOWx HBS H0x H1x HKx HFx0 C14
        go_upto_region 19 with fail
        have hb4 : Below X3.heap.size X3 (X3.alloc (.cells #[.int .i64 (v : Nat), .slice (some ⟨g, 0, none⟩) k cap', .int .i64 rc, .int .i64 rm, .int .i64 k, .int .i64 sh, .int .i64 0, .int .i64 0, .bool false, .string ⟨#[]⟩] 36)) := below_alloc1 _ _
        have HG4 : Hid ((X3.alloc (.cells #[.int .i64 (v : Nat), .slice (some ⟨g, 0, none⟩) k cap', .int .i64 rc, .int .i64 rm, .int .i64 k, .int .i64 sh, .int .i64 0, .int .i64 0, .bool false, .string ⟨#[]⟩] 36)).heap[X3.heap.size]? = some (.cells #[.int .i64 (v : Nat), .slice (some ⟨g, 0, none⟩) k cap', .int .i64 rc, .int .i64 rm, .int .i64 k, .int .i64 sh, .int .i64 0, .int .i64 0, .bool false, .string ⟨#[]⟩] 36)) := heap_alloc_new X3 _
        generalize hX4 : X3.alloc (.cells #[.int .i64 (v : Nat), .slice (some ⟨g, 0, none⟩) k cap', .int .i64 rc, .int .i64 rm, .int .i64 k, .int .i64 sh, .int .i64 0, .int .i64 0, .bool false, .string ⟨#[]⟩] 36) = X4 at *
        clear hX4
        have H1t : Hid (X4.heap[w.heap.size + 1]? = some (.cells #[.int .i64 0, .slice none 0 0, .int .i64 0, .int .i64 0, .int .i64 0, .int .i64 0, .int .i64 0, .int .i64 0, .bool false, .string ⟨#[]⟩, .int .i64 0, .int .u64 0] 99)) := (hb4.block _ (heap_lt H1s.out)).trans H1s.out
        have HBS4 : Hid _ := (hb4.block _ (heap_lt HBS3.out)).trans HBS3.out
        have HOW4 : Hid _ := owns_below HOW3.out hb4
        have HK4 : Hid (KeptRow X4 B kg n K) := owns_below HK3'.out hb4
        have HF4 : Hid _ := (hb4.block _ (heap_lt HF3'.out)).trans HF3'.out
        have Ox4 : Hid (OnlyS [f, kg] w X4) := Ox3.out.trans (OnlyS.of hb4)
        have y2 := blk_r HBS4.out (i := 2) rfl
        have y14 := cell_regrown ((hb4.cell (cell_lt C14x.out)).trans C14x.out)
        have g0 := blk_r HG4.out (i := 0) rfl
        have g1 := blk_r HG4.out (i := 1) rfl
        have g2 := blk_r HG4.out (i := 2) rfl
        have g3 := blk_r HG4.out (i := 3) rfl
        have g4 := blk_r HG4.out (i := 4) rfl
        have g5 := blk_r HG4.out (i := 5) rfl
        have g6 := blk_r HG4.out (i := 6) rfl
        have g7 := blk_r HG4.out (i := 7) rfl
        have g8 := blk_r HG4.out (i := 8) rfl
        have g9 := blk_r HG4.out (i := 9) rfl
        clear hb4
        refine wp_region_quiet_list 9 (by kernel_rfl) (by kernel_rfl) (by kernel_rfl) ?_
        simp only [List.take_succ_cons, List.take_zero, List.drop_succ_cons, List.drop_zero]
        repeat (go_big_quiet_step (fail))
        refine wpQuiet_nil ?_
        intro X5 hb5
        clear g0 g1 g2 g3 g4 g5 g6 g7 g8 g9 y2 y14
        have H1u : Hid (X5.heap[w.heap.size + 1]? = some (.cells #[.int .i64 0, .slice none 0 0, .int .i64 0, .int .i64 0, .int .i64 0, .int .i64 0, .int .i64 0, .int .i64 0, .bool false, .string ⟨#[]⟩, .int .i64 0, .int .u64 0] 99)) := (hb5.block _ (heap_lt H1t.out)).trans H1t.out
        refine wpList_store_blk2 rfl 99 _ _ rfl (w.heap.size + 1) _ rfl rfl 99 _ H1u.out (by kernel_rfl) rfl (by simp [Value.oneCell']) ?_
        intro X6 hw6 ho6
        have HW6 : Hid _ := hw6
        clear hw6
        go_wp2_with fail
        have Ox5 : OnlyS [f, kg] w X5 := Ox4.out.trans (OnlyS.of hb5)
        refine bodyPost_ret (results_cell_slot Tryz.results24 _ X6 _ 99 _ (0, 0) _ rfl HW6.out Tryz.underlying99 rfl (by kernel_rfl)) rfl ⟨onlyS_new Ox5 (T := [w.heap.size + 1]) ⟨ho6.2.2.os, ho6.2.2.tape, ho6.2.2.output, by rw [ho6.2.1]; exact Nat.le_refl _, fun q _ hne => ho6.1 q (fun e => hne (by rw [e]; exact List.mem_singleton.2 rfl))⟩ (fun q hq => .inl (by simp only [List.mem_cons, List.not_mem_nil, or_false] at hq; omega)), ⟨_, trivial, (ho6.1 f (by omega)).trans ((hb5.block _ (heap_lt HF4.out)).trans HF4.out)⟩, .inl ⟨t0, v, nd, HVT.out, HND.out, HFIT.out, HNO.out, ⟨K, ?_, HKA.out⟩, g, cap', L, rfl, ?_, HGR.out⟩⟩
        · exact ownsRow_same (owns_below HK4.out hb5) (fun q hq => by cases hq; exact ho6.1 kg (by omega))
        · refine owns_low (ownsRow_same (owns_below HOW4.out hb5) (fun q hq => ho6.1 q ?_)) (by omega)
          have := owns_block HOW4.out q hq
          omega

end Go.Proofs.Qxb6612460aGreatFmt
