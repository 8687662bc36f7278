/-
  (*Ledger).choose.
-/
import Derived.Test.Qxb6612460aGreatFmtChA
import Derived.Deep.RegionHeld3
namespace Go.Proofs.Qxb6612460aGreatFmt
open Go.RowKit Go.Sort Go.MuLone
attribute [local go_sem] Option.isNone_none Option.isNone_some
attribute [local go_sem] sUpon mUpon
attribute [local go_sem] Mix.isVal Mix.makes

/-- The decision that the law wants. -/
def ResOk (B : Nat) (w' : World) (ns : List (Int × Int × Nat)) (vs : List Nat) (rc rm : Int) (k : Nat) (sh : Int) (across : Bool) (e : Ending) : Option Nat → Prop
  | none => NoneN ns vs rc rm k ∧ e = .returned (.tuple #[decVN 0 (.slice none 0 0) 0 0 0 0, .bool false])
  | some t0 => ∃ v nd, vs[t0]? = some v ∧ ns[v]? = some nd ∧ FitN rc rm k nd ∧ NoneN ns (vs.take t0) rc rm k ∧ ∃ (g cap : Nat) (L : List Nat), e = .returned (.tuple #[decVN v (.slice (some ⟨g, 0, none⟩) k cap) rc rm k sh, .bool true]) ∧ w'.ownsRow B 3 1 (.slice (some ⟨g, 0, none⟩) k cap) k (L.map natV) ∧ GrantedIds (List.replicate nd.2.2 (0, true)) k (!across) L
theorem ResOk.hit {B : Nat} {w' : World} {ns : List (Int × Int × Nat)} {vs : List Nat} {rc rm : Int} {k : Nat} {sh : Int} {across : Bool} {e : Ending} {hit : Option Nat} (h : ResOk B w' ns vs rc rm k sh across e hit) : HitOk ns vs rc rm k hit := by
  cases hit with
  | none => exact h.1
  | some t0 =>
    obtain ⟨v, nd, h1, h2, h3, h4, _⟩ := h
    exact ⟨v, nd, h1, h2, h3, h4⟩
theorem ResOk.move {B B' : Nat} {X X' : World} {ns : List (Int × Int × Nat)} {vs : List Nat} {rc rm : Int} {k : Nat} {sh : Int} {across : Bool} {e : Ending} {hit : Option Nat} (h : ResOk B X ns vs rc rm k sh across e hit) (hB : B' ≤ B) (hX : ∀ q, B ≤ q → q < X.heap.size → X'.heap[q]? = X.heap[q]?) : ResOk B' X' ns vs rc rm k sh across e hit := by
  cases hit with
  | none => exact h
  | some t0 =>
    obtain ⟨v, nd, h1, h2, h3, h4, g, cap, L, h5, h6, h7⟩ := h
    exact ⟨v, nd, h1, h2, h3, h4, g, cap, L, h5, owns_low (ownsRow_same h6 (fun q hq => hX q (owns_block h6 q hq) (ownsRow_lt h6 q hq))) hB, h7⟩
/-- A ledger that has decided one request. -/
def LedKept (w : World) (l s m : Nat) (ns : List (Int × Int × Nat)) (vs : List Nat) (rc rm : Int) (k : Nat) (sh : Int) (across : Bool) (f kg : Nat) (hit : Option Nat) : Prop :=
  ∃ (mp el : Nat) (K : List (Nat × Int)), Kept w l (.pointer (some ⟨s, 0, none⟩)) rc rm k sh across ns.length mp el f kg (.pointer (some ⟨m, 0, none⟩)) (.slice none 0 0) false ∧ KeptRow w l kg ns.length K ∧ KAfter K vs hit ∧ l < f ∧ l < kg ∧ l < mp ∧ l < el

set_option maxRecDepth 100000 in
set_option maxHeartbeats 8000000 in
theorem ledF (l s m : Nat) (cs : Array Value) (na : Option Addr) (nc : Nat) (ns : List (Int × Int × Nat)) (vs : List Nat) (rc rm : Int) (k : Nat) (sh : Int) (across : Bool) (w : World) (hl : w.heap[l]? = some (.cells #[.int .i32 0, .int .u32 0, .pointer (some ⟨s, 0, none⟩), .int .i32 0, .int .u32 0, .map none, .pointer none, .pointer none, .pointer none, .nilIface, .int .i64 0] 96 (0, 0)))
    (hSH : ∀ Z : World, (∀ q, q < l → Z.heap[q]? = w.heap[q]?) → ShelfAt Z s m ns vs ∧ Z.heap[s]? = some (.cells cs 58 (0, 0))) (h0 : cs[0]? = some (.slice na ns.length nc)) (hsl : s < l) (h2 : 2 ≤ ns.length) (h4 : ns.length ≤ 4096) (hvl : vs.length ≤ 65536) (hr : ReqOk k sh) :
    Calls Tryz.prog 25 #[.pointer (some ⟨l, 0, none⟩), .pointer (some ⟨s, 0, none⟩), .agg #[.int .i64 rc, .int .i64 rm, .int .i64 k, .int .i64 sh, .int .i64 0, .int .i64 0, .bool false, .string ⟨#[]⟩, .bool across]] w fun e w' => OnlyS [l] w w' ∧ ∃ f kg hit, w.heap.size ≤ f ∧ w.heap.size ≤ kg ∧ LedKept w' l s m ns vs rc rm k sh across f kg hit ∧ ResOk w.heap.size w' ns vs rc rm k sh across e hit := by
  have HL : Hid (w.heap[l]? = some (.cells #[.int .i32 0, .int .u32 0, .pointer (some ⟨s, 0, none⟩), .int .i32 0, .int .u32 0, .map none, .pointer none, .pointer none, .pointer none, .nilIface, .int .i64 0] 96 (0, 0))) := hl
  have HSH : Hid (∀ Z : World, (∀ q, q < l → Z.heap[q]? = w.heap[q]?) → ShelfAt Z s m ns vs ∧ Z.heap[s]? = some (.cells cs 58 (0, 0))) := hSH
  have hll := heap_lt hl
  have hs0 : w.cell? ⟨s, 0, none⟩ = some (.slice na ns.length nc) := blk_c (hSH w (fun _ _ => rfl)).2 (Below.refl _ _) h0
  clear hl hSH
  go_enter_defers Tryz.func25, Tryz.ntmps25
  have hb0 : Below w.heap.size w ((w.alloc (.cells #[.int .i64 rc, .int .i64 rm, .int .i64 k, .int .i64 sh, .int .i64 0, .int .i64 0, .bool false, .string ⟨#[]⟩, .bool across] 104)).alloc (.cells #[.int .i64 0, .slice none 0 0, .int .i64 0, .int .i64 0, .int .i64 0, .int .i64 0, .int .i64 0, .int .i64 0, .bool false, .string ⟨#[]⟩, .int .i64 0, .int .u64 0] 99)) := (below_alloc1 _ _).alloc (by simp) _
  have H0 : Hid (((w.alloc (.cells #[.int .i64 rc, .int .i64 rm, .int .i64 k, .int .i64 sh, .int .i64 0, .int .i64 0, .bool false, .string ⟨#[]⟩, .bool across] 104)).alloc (.cells #[.int .i64 0, .slice none 0 0, .int .i64 0, .int .i64 0, .int .i64 0, .int .i64 0, .int .i64 0, .int .i64 0, .bool false, .string ⟨#[]⟩, .int .i64 0, .int .u64 0] 99)).heap[w.heap.size]? = some (.cells #[.int .i64 rc, .int .i64 rm, .int .i64 k, .int .i64 sh, .int .i64 0, .int .i64 0, .bool false, .string ⟨#[]⟩, .bool across] 104)) := by
    show _ = _
    rw [heap_alloc_old _ _ (by simp), heap_alloc_new]
  have H1 : Hid (((w.alloc (.cells #[.int .i64 rc, .int .i64 rm, .int .i64 k, .int .i64 sh, .int .i64 0, .int .i64 0, .bool false, .string ⟨#[]⟩, .bool across] 104)).alloc (.cells #[.int .i64 0, .slice none 0 0, .int .i64 0, .int .i64 0, .int .i64 0, .int .i64 0, .int .i64 0, .int .i64 0, .bool false, .string ⟨#[]⟩, .int .i64 0, .int .u64 0] 99)).heap[w.heap.size + 1]? = some (.cells #[.int .i64 0, .slice none 0 0, .int .i64 0, .int .i64 0, .int .i64 0, .int .i64 0, .int .i64 0, .int .i64 0, .bool false, .string ⟨#[]⟩, .int .i64 0, .int .u64 0] 99)) := heap_alloc2_new w _ _
  go_upto_region 1 with fail
  generalize hW : (w.alloc (.cells #[.int .i64 rc, .int .i64 rm, .int .i64 k, .int .i64 sh, .int .i64 0, .int .i64 0, .bool false, .string ⟨#[]⟩, .bool across] 104)).alloc (.cells #[.int .i64 0, .slice none 0 0, .int .i64 0, .int .i64 0, .int .i64 0, .int .i64 0, .int .i64 0, .int .i64 0, .bool false, .string ⟨#[]⟩, .int .i64 0, .int .u64 0] 99) = W at *
  clear hW
  have HLW : Hid _ := (hb0.block l hll).trans HL.out
  have r0 := (hb0.cell (cell_lt hs0)).trans hs0
  have a0 := blk_c H0.out (Below.refl _ _) (i := 0) rfl
  have a1 := blk_c H0.out (Below.refl _ _) (i := 1) rfl
  have a2 := blk_c H0.out (Below.refl _ _) (i := 2) rfl
  have a3 := blk_c H0.out (Below.refl _ _) (i := 3) rfl
  have a4 := blk_c H0.out (Below.refl _ _) (i := 4) rfl
  have a5 := blk_c H0.out (Below.refl _ _) (i := 5) rfl
  have a6 := blk_c H0.out (Below.refl _ _) (i := 6) rfl
  have a7 := blk_c H0.out (Below.refl _ _) (i := 7) rfl
  have a8 := blk_c H0.out (Below.refl _ _) (i := 8) rfl
  have l1 := heap_lt H1.out
  have hws := hb0.size
  have nl : ∀ q, q ≠ l → q ∉ [l] := fun q hq => by simp only [List.mem_cons, List.not_mem_nil, or_false]; exact hq
  go_region_held3 (fun z : World => z.cell? ⟨w.heap.size, 0, none⟩ = some (.int .i64 rc) ∧ z.cell? ⟨w.heap.size, 1, none⟩ = some (.int .i64 rm) ∧ z.cell? ⟨w.heap.size, 2, none⟩ = some (.int .i64 k) ∧ z.cell? ⟨w.heap.size, 3, none⟩ = some (.int .i64 sh) ∧ z.cell? ⟨w.heap.size, 4, none⟩ = some (.int .i64 0) ∧ z.cell? ⟨w.heap.size, 5, none⟩ = some (.int .i64 0) ∧ z.cell? ⟨w.heap.size, 6, none⟩ = some (.bool false) ∧ z.cell? ⟨w.heap.size, 7, none⟩ = some (.string ⟨#[]⟩) ∧ z.cell? ⟨w.heap.size, 8, none⟩ = some (.bool across) ∧ z.cell? ⟨s, 0, none⟩ = some (.slice na ns.length nc)) (first | exact HSK.out | simp [*]) (first | (go_at_call 40; refine (takeNew l ns.length (.pointer (some ⟨s, 0, none⟩)) rc rm k sh across _ ?_ h2 h4).mono ?_; exact HLW.out; rintro e X1 ⟨mp, el, f, kg, rfl, ho1, hf1, hm1, he1, hK1, hkr1⟩; have HO1 : Hid (OnlyS [l] W X1) := ⟨ho1.os, ho1.tape, ho1.output, ho1.size, ho1.block⟩; have HSK : Hid ((fun z : World => z.cell? ⟨w.heap.size, 0, none⟩ = some (.int .i64 rc) ∧ z.cell? ⟨w.heap.size, 1, none⟩ = some (.int .i64 rm) ∧ z.cell? ⟨w.heap.size, 2, none⟩ = some (.int .i64 k) ∧ z.cell? ⟨w.heap.size, 3, none⟩ = some (.int .i64 sh) ∧ z.cell? ⟨w.heap.size, 4, none⟩ = some (.int .i64 0) ∧ z.cell? ⟨w.heap.size, 5, none⟩ = some (.int .i64 0) ∧ z.cell? ⟨w.heap.size, 6, none⟩ = some (.bool false) ∧ z.cell? ⟨w.heap.size, 7, none⟩ = some (.string ⟨#[]⟩) ∧ z.cell? ⟨w.heap.size, 8, none⟩ = some (.bool across) ∧ z.cell? ⟨s, 0, none⟩ = some (.slice na ns.length nc)) X1) := ⟨HO1.out.cell a0 (nl _ (by simp only; omega)), HO1.out.cell a1 (nl _ (by simp only; omega)), HO1.out.cell a2 (nl _ (by simp only; omega)), HO1.out.cell a3 (nl _ (by simp only; omega)), HO1.out.cell a4 (nl _ (by simp only; omega)), HO1.out.cell a5 (nl _ (by simp only; omega)), HO1.out.cell a6 (nl _ (by simp only; omega)), HO1.out.cell a7 (nl _ (by simp only; omega)), HO1.out.cell a8 (nl _ (by simp only; omega)), HO1.out.cell r0 (nl _ (by simp only; omega))⟩))
  have HK1 : Hid _ := hK1
  have HKR : Hid (KeptRow X1 W.heap.size kg ns.length (List.replicate ns.length (0, 0))) := hkr1
  have hkg : W.heap.size ≤ kg := owns_block hkr1 kg rfl
  have hf1' : W.heap.size ≤ f := hf1
  have hm1' : W.heap.size ≤ mp := hm1
  have he1' : W.heap.size ≤ el := he1
  clear hf1 hm1 he1
  have O1 : Hid (OnlyS [l] w X1) := (OnlyS.of hb0).trans HO1.out
  have H01 : Hid (X1.heap[w.heap.size]? = some (.cells #[.int .i64 rc, .int .i64 rm, .int .i64 k, .int .i64 sh, .int .i64 0, .int .i64 0, .bool false, .string ⟨#[]⟩, .bool across] 104)) := HO1.out.blk H0.out (nl _ (by omega))
  have H11 : Hid (X1.heap[w.heap.size + 1]? = some (.cells #[.int .i64 0, .slice none 0 0, .int .i64 0, .int .i64 0, .int .i64 0, .int .i64 0, .int .i64 0, .int .i64 0, .bool false, .string ⟨#[]⟩, .int .i64 0, .int .u64 0] 99)) := HO1.out.blk H1.out (nl _ (by omega))
  have hx1 := HO1.out.size
  have hfx1 : f < X1.heap.size := heap_lt HK1.out.find
  have hmf : f ≠ mp := fun e => by have h1 := hK1.find; have h2 := hK1.map; rw [e, h2] at h1; cases h1
  have hfk : f ≠ kg := fun e => by exact owns_ne hkr1 hK1.find (by decide) kg rfl e.symm
  clear ho1 hK1 hkr1 H0 H1 hb0 HO1 HSK a0 a1 a2 a3 a4 a5 a6 a7 a8 r0
  go_upto_region 4 with fail
  have a0 := blk_c H01.out (Below.refl _ _) (i := 0) rfl
  have a1 := blk_c H01.out (Below.refl _ _) (i := 1) rfl
  have a2 := blk_c H01.out (Below.refl _ _) (i := 2) rfl
  have a3 := blk_c H01.out (Below.refl _ _) (i := 3) rfl
  have a4 := blk_c H01.out (Below.refl _ _) (i := 4) rfl
  have a5 := blk_c H01.out (Below.refl _ _) (i := 5) rfl
  have a6 := blk_c H01.out (Below.refl _ _) (i := 6) rfl
  have a7 := blk_c H01.out (Below.refl _ _) (i := 7) rfl
  have a8 := blk_c H01.out (Below.refl _ _) (i := 8) rfl
  go_wp2_with fail
  refine (chooseF f s m kg ns.length W.heap.size ns vs rc rm k sh across (.slice none 0 0) _ X1 HK1.out.find HKR.out (fun Z hZ => (HSH.out Z (fun q hq => (hZ.block q (by omega) (by simp only [List.mem_cons, List.not_mem_nil, or_false, not_or]; exact ⟨by omega, by omega⟩)).trans (O1.out.block q (by omega) (nl _ (by omega))))).1) rfl (by omega) hvl hr (by omega) (by omega) hfk).mono ?_
  rintro e X2 ⟨ho2, ⟨td, rfl, hf2⟩, hres⟩
  have hfk2 : ∀ q, q ≠ f → q ≠ kg → q ∉ [f, kg] := fun q h1 h2 => by simp only [List.mem_cons, List.not_mem_nil, or_false, not_or]; exact ⟨h1, h2⟩
  have hel : el ≠ f := fun e => by have h1 := HK1.out.find; have h2 := HK1.out.elem; rw [← e, h2] at h1; cases h1
  have helk : el ≠ kg := fun e => by have := owns_ne HKR.out HK1.out.elem (by decide) kg rfl; exact this e.symm
  have hmk : mp ≠ kg := fun e => by
    obtain ⟨-, h | ⟨g', c', cur, q1, -, q3, -⟩⟩ := HKR.out
    · cases h.1
    · cases q1; have := HK1.out.map; rw [e, q3] at this; cases this
  have H12 : Hid (X2.heap[w.heap.size + 1]? = some (.cells #[.int .i64 0, .slice none 0 0, .int .i64 0, .int .i64 0, .int .i64 0, .int .i64 0, .int .i64 0, .int .i64 0, .bool false, .string ⟨#[]⟩, .int .i64 0, .int .u64 0] 99)) := ho2.blk H11.out (hfk2 _ (by omega) (by omega))
  have hl2 := ho2.blk HK1.out.led (hfk2 l (by omega) (by omega))
  have HL2 : Hid _ := hl2
  have HM2 : Hid _ := ho2.blk HK1.out.map (hfk2 mp (Ne.symm hmf) hmk)
  have HE2 : Hid _ := ho2.blk HK1.out.elem (hfk2 el hel helk)
  have HF2 : Hid _ := hf2
  have O2 : Hid (OnlyS [l] w X2) := onlyS_new O1.out ho2 (fun q hq => by simp only [List.mem_cons, List.not_mem_nil, or_false] at hq; rcases hq with rfl | rfl <;> exact .inl (by omega))
  have hxx := ho2.size
  clear a0 a1 a2 a3 a4 a5 a6 a7 a8 hl2 hf2 H01 H11 HK1 HKR ho2
  obtain ⟨hit, dv, ok, K, he0, hKa, hKr, hdv1, hdv2, hR⟩ : ∃ (hit : Option Nat) (dv : Array Value) (ok : Bool) (K : List (Nat × Int)), e = .returned (.tuple #[.agg dv, .bool ok]) ∧ KAfter K vs hit ∧ KeptRow X2 W.heap.size kg ns.length K ∧ dv.size = 12 ∧ dv.all (·.oneCell') = true ∧ ResOk X1.heap.size X2 ns vs rc rm k sh across e hit := by
    rcases hres with ⟨t0, v, nd, q1, q2, q3, q4, ⟨K, q5, q6⟩, g, cap, L, q7, q8, q9⟩ | ⟨q1, ⟨K, q2, q3⟩, q4⟩
    · exact ⟨some t0, _, _, K, q7, q6, q5, rfl, by simp [Value.oneCell'], v, nd, q1, q2, q3, q4, g, cap, L, q7, q8, q9⟩
    · exact ⟨none, _, _, K, q4, q3, q2, rfl, by simp [Value.oneCell'], q1, q4⟩
  subst he0
  have HRK : Hid _ := hR
  have HKa : Hid (KAfter K vs hit) := hKa
  have HKr : Hid (KeptRow X2 W.heap.size kg ns.length K) := hKr
  have HD1 : Hid (dv.size = 12) := hdv1
  have HD2 : Hid (dv.all (·.oneCell') = true) := hdv2
  clear hres hR hKa hKr hdv1 hdv2
  have hi99 : Hid ((Tryz.prog.info? 99).map (·.size) = some dv.size) := by show _ = _; rw [HD1.out]; kernel_rfl
  have hlfx := heap_lt HF2.out
  have hlkx := ownsRow_lt HKr.out kg rfl
  go_wp2_with (refine wpList_store_blk2 rfl 99 _ _ rfl (w.heap.size + 1) dv rfl rfl 99 _ H12.out hi99.out (by rw [HD1.out]; rfl) HD2.out ?_; intro X3 hw3 ho3; have HW3 : Hid _ := hw3; have HO3 : Hid _ := ho3; clear hw3 ho3)
  have hl3 := (HO3.out.1 l (by omega)).trans HL2.out
  have hf3 := (HO3.out.1 f (by omega)).trans HF2.out
  refine leaves_cons (f := 41) (args := #[.pointer (some ⟨l, 3, none⟩), .pointer (some ⟨f, 0, none⟩)]) (by simp) (by simp [go_sem]) ?_
  refine (giveD l f _ _ .returning X3 hl3 rfl hf3 rfl (by omega)).mono ?_
  rintro e u' X4 ⟨rfl, rfl, ho4, hsz4, hl4, hf4⟩
  have n2 : ∀ q, q ≠ l → q ≠ f → q ∉ [l, f] := fun q h1 h2 => by simp only [List.mem_cons, List.not_mem_nil, or_false, not_or]; exact ⟨h1, h2⟩
  have sz3 := HO3.out.2.1
  have hall : ∀ q, q < X2.heap.size → q ≠ l → q ≠ f → q ≠ w.heap.size + 1 → X4.heap[q]? = X2.heap[q]? := fun q h1 h2 h3 h5 => (ho4.block q (by omega) (n2 q h2 h3)).trans (HO3.out.1 q h5)
  have hd4 : X4.heap[w.heap.size + 1]? = some (.cells dv 99 (0, 0)) := (ho4.block _ (by have := heap_lt HW3.out; omega) (n2 _ (by omega) (by omega))).trans HW3.out
  have O3 : OnlyS [l] w X3 := onlyS_new O2.out (T := [w.heap.size + 1]) ⟨HO3.out.2.2.os, HO3.out.2.2.tape, HO3.out.2.2.output, by omega, fun q _ hne => HO3.out.1 q (fun e => hne (by rw [e]; exact List.mem_singleton.2 rfl))⟩ (fun q hq => .inl (by simp only [List.mem_cons, List.not_mem_nil, or_false] at hq; omega))
  have O4 : OnlyS [l] w X4 := onlyS_new O3 ho4 (fun q hq => by simp only [List.mem_cons, List.not_mem_nil, or_false] at hq; rcases hq with rfl | rfl; exact .inr (by simp); exact .inl (by omega))
  refine ⟨_, results_cell_slot Tryz.results25 _ X4 _ 99 _ (0, 0) _ rfl hd4 Tryz.underlying99 rfl hi99.out, O4, f, kg, hit, by omega, by omega, ⟨mp, el, K, ⟨hl4, (hall mp (heap_lt HM2.out) (by omega) (Ne.symm hmf) (by omega)).trans HM2.out, (hall el (heap_lt HE2.out) (by omega) hel (by omega)).trans HE2.out, hf4⟩, ?_, HKa.out, by omega, by omega, by omega, by omega⟩, ?_⟩
  · exact owns_low (ownsRow_same HKr.out (fun q hq => by cases hq; exact hall kg hlkx (by omega) (Ne.symm hfk) (by omega))) (by omega)
  · exact ResOk.move HRK.out (by omega) (fun q h1 h5 => hall q h5 (by omega) (by omega) (by omega))

set_option maxRecDepth 100000 in
set_option maxHeartbeats 8000000 in
theorem ledA (l s m f kg : Nat) (hit0 : Option Nat) (cs : Array Value) (na : Option Addr) (nc : Nat) (ns : List (Int × Int × Nat)) (vs : List Nat) (rc rm : Int) (k : Nat) (sh : Int) (across : Bool) (w : World) (hLK : LedKept w l s m ns vs rc rm k sh across f kg hit0) (hho : HitOk ns vs rc rm k hit0)
    (hSH : ∀ Z : World, (∀ q, q < l → Z.heap[q]? = w.heap[q]?) → ShelfAt Z s m ns vs ∧ Z.heap[s]? = some (.cells cs 58 (0, 0))) (h0 : cs[0]? = some (.slice na ns.length nc)) (hsl : s < l) (h2 : 2 ≤ ns.length) (hvl : vs.length ≤ 65536) (hr : ReqOk k sh) :
    Calls Tryz.prog 25 #[.pointer (some ⟨l, 0, none⟩), .pointer (some ⟨s, 0, none⟩), .agg #[.int .i64 rc, .int .i64 rm, .int .i64 k, .int .i64 sh, .int .i64 0, .int .i64 0, .bool false, .string ⟨#[]⟩, .bool across]] w fun e w' => OnlyS [l, f, kg] w w' ∧ ∃ hit, ResOk w.heap.size w' ns vs rc rm k sh across e hit := by
  obtain ⟨mp, el, K0, hKp, hKR0, hKA0, hlf0, hlk0, hlm0, hle0⟩ := hLK
  have hl := hKp.led
  have HKp : Hid _ := hKp
  have HKR0 : Hid (KeptRow w l kg ns.length K0) := hKR0
  have HKA0 : Hid (KAfter K0 vs hit0) := hKA0
  have hfw := heap_lt hKp.find
  have hkw := ownsRow_lt hKR0 kg rfl
  have hmw := heap_lt hKp.map
  have hew := heap_lt hKp.elem
  have hmf : f ≠ mp := fun e => by have h1 := hKp.find; have h2 := hKp.map; rw [e, h2] at h1; cases h1
  have hfk : f ≠ kg := fun e => by exact owns_ne hKR0 hKp.find (by decide) kg rfl e.symm
  have hel : el ≠ f := fun e => by have h1 := hKp.find; have h2 := hKp.elem; rw [← e, h2] at h1; cases h1
  clear hKp hKR0 hKA0
  have HL : Hid (w.heap[l]? = some (.cells #[.int .i32 0, .int .u32 0, .pointer (some ⟨s, 0, none⟩), .int .i32 0, .int .u32 0, .map (some mp), .pointer (some ⟨el, 0, none⟩), .pointer (some ⟨el, 0, none⟩), .pointer none, .nilIface, .int .i64 1] 96 (0, 0))) := hl
  have HSH : Hid (∀ Z : World, (∀ q, q < l → Z.heap[q]? = w.heap[q]?) → ShelfAt Z s m ns vs ∧ Z.heap[s]? = some (.cells cs 58 (0, 0))) := hSH
  have hll := heap_lt hl
  have hs0 : w.cell? ⟨s, 0, none⟩ = some (.slice na ns.length nc) := blk_c (hSH w (fun _ _ => rfl)).2 (Below.refl _ _) h0
  clear hl hSH
  go_enter_defers Tryz.func25, Tryz.ntmps25
  have hb0 : Below w.heap.size w ((w.alloc (.cells #[.int .i64 rc, .int .i64 rm, .int .i64 k, .int .i64 sh, .int .i64 0, .int .i64 0, .bool false, .string ⟨#[]⟩, .bool across] 104)).alloc (.cells #[.int .i64 0, .slice none 0 0, .int .i64 0, .int .i64 0, .int .i64 0, .int .i64 0, .int .i64 0, .int .i64 0, .bool false, .string ⟨#[]⟩, .int .i64 0, .int .u64 0] 99)) := (below_alloc1 _ _).alloc (by simp) _
  have H0 : Hid (((w.alloc (.cells #[.int .i64 rc, .int .i64 rm, .int .i64 k, .int .i64 sh, .int .i64 0, .int .i64 0, .bool false, .string ⟨#[]⟩, .bool across] 104)).alloc (.cells #[.int .i64 0, .slice none 0 0, .int .i64 0, .int .i64 0, .int .i64 0, .int .i64 0, .int .i64 0, .int .i64 0, .bool false, .string ⟨#[]⟩, .int .i64 0, .int .u64 0] 99)).heap[w.heap.size]? = some (.cells #[.int .i64 rc, .int .i64 rm, .int .i64 k, .int .i64 sh, .int .i64 0, .int .i64 0, .bool false, .string ⟨#[]⟩, .bool across] 104)) := by
    show _ = _
    rw [heap_alloc_old _ _ (by simp), heap_alloc_new]
  have H1 : Hid (((w.alloc (.cells #[.int .i64 rc, .int .i64 rm, .int .i64 k, .int .i64 sh, .int .i64 0, .int .i64 0, .bool false, .string ⟨#[]⟩, .bool across] 104)).alloc (.cells #[.int .i64 0, .slice none 0 0, .int .i64 0, .int .i64 0, .int .i64 0, .int .i64 0, .int .i64 0, .int .i64 0, .bool false, .string ⟨#[]⟩, .int .i64 0, .int .u64 0] 99)).heap[w.heap.size + 1]? = some (.cells #[.int .i64 0, .slice none 0 0, .int .i64 0, .int .i64 0, .int .i64 0, .int .i64 0, .int .i64 0, .int .i64 0, .bool false, .string ⟨#[]⟩, .int .i64 0, .int .u64 0] 99)) := heap_alloc2_new w _ _
  go_upto_region 1 with fail
  generalize hW : (w.alloc (.cells #[.int .i64 rc, .int .i64 rm, .int .i64 k, .int .i64 sh, .int .i64 0, .int .i64 0, .bool false, .string ⟨#[]⟩, .bool across] 104)).alloc (.cells #[.int .i64 0, .slice none 0 0, .int .i64 0, .int .i64 0, .int .i64 0, .int .i64 0, .int .i64 0, .int .i64 0, .bool false, .string ⟨#[]⟩, .int .i64 0, .int .u64 0] 99) = W at *
  clear hW
  have HLW : Hid _ := (hb0.block l hll).trans HL.out
  have r0 := (hb0.cell (cell_lt hs0)).trans hs0
  have a0 := blk_c H0.out (Below.refl _ _) (i := 0) rfl
  have a1 := blk_c H0.out (Below.refl _ _) (i := 1) rfl
  have a2 := blk_c H0.out (Below.refl _ _) (i := 2) rfl
  have a3 := blk_c H0.out (Below.refl _ _) (i := 3) rfl
  have a4 := blk_c H0.out (Below.refl _ _) (i := 4) rfl
  have a5 := blk_c H0.out (Below.refl _ _) (i := 5) rfl
  have a6 := blk_c H0.out (Below.refl _ _) (i := 6) rfl
  have a7 := blk_c H0.out (Below.refl _ _) (i := 7) rfl
  have a8 := blk_c H0.out (Below.refl _ _) (i := 8) rfl
  have l1 := heap_lt H1.out
  have hws := hb0.size
  have nl : ∀ q, q ≠ l → q ≠ f → q ∉ [l, f] := fun q h1 h2 => by simp only [List.mem_cons, List.not_mem_nil, or_false, not_or]; exact ⟨h1, h2⟩
  have HKW : Hid (Kept W l (.pointer (some ⟨s, 0, none⟩)) rc rm k sh across ns.length mp el f kg (.pointer (some ⟨m, 0, none⟩)) (.slice none 0 0) false) := ⟨HLW.out, (hb0.block mp hmw).trans HKp.out.map, (hb0.block el hew).trans HKp.out.elem, (hb0.block f hfw).trans HKp.out.find⟩
  go_region_held3 (fun z : World => z.cell? ⟨w.heap.size, 0, none⟩ = some (.int .i64 rc) ∧ z.cell? ⟨w.heap.size, 1, none⟩ = some (.int .i64 rm) ∧ z.cell? ⟨w.heap.size, 2, none⟩ = some (.int .i64 k) ∧ z.cell? ⟨w.heap.size, 3, none⟩ = some (.int .i64 sh) ∧ z.cell? ⟨w.heap.size, 4, none⟩ = some (.int .i64 0) ∧ z.cell? ⟨w.heap.size, 5, none⟩ = some (.int .i64 0) ∧ z.cell? ⟨w.heap.size, 6, none⟩ = some (.bool false) ∧ z.cell? ⟨w.heap.size, 7, none⟩ = some (.string ⟨#[]⟩) ∧ z.cell? ⟨w.heap.size, 8, none⟩ = some (.bool across) ∧ z.cell? ⟨s, 0, none⟩ = some (.slice na ns.length nc)) (first | exact HSK.out | simp [*]) (first | (go_at_call 40; refine (takeAgain l ns.length (.pointer (some ⟨s, 0, none⟩)) rc rm k sh across mp el f kg (.pointer (some ⟨m, 0, none⟩)) (.slice none 0 0) _ ?_ h2 (by omega) (by omega) (by omega) hel hmf).mono ?_; exact ⟨HKW.out.led, HKW.out.map, HKW.out.elem, HKW.out.find⟩; rintro e X1 ⟨rfl, ho1, hK1⟩; have HO1 : Hid (OnlyS [l, f] W X1) := ⟨ho1.os, ho1.tape, ho1.output, ho1.size, ho1.block⟩; have HSK : Hid ((fun z : World => z.cell? ⟨w.heap.size, 0, none⟩ = some (.int .i64 rc) ∧ z.cell? ⟨w.heap.size, 1, none⟩ = some (.int .i64 rm) ∧ z.cell? ⟨w.heap.size, 2, none⟩ = some (.int .i64 k) ∧ z.cell? ⟨w.heap.size, 3, none⟩ = some (.int .i64 sh) ∧ z.cell? ⟨w.heap.size, 4, none⟩ = some (.int .i64 0) ∧ z.cell? ⟨w.heap.size, 5, none⟩ = some (.int .i64 0) ∧ z.cell? ⟨w.heap.size, 6, none⟩ = some (.bool false) ∧ z.cell? ⟨w.heap.size, 7, none⟩ = some (.string ⟨#[]⟩) ∧ z.cell? ⟨w.heap.size, 8, none⟩ = some (.bool across) ∧ z.cell? ⟨s, 0, none⟩ = some (.slice na ns.length nc)) X1) := ⟨HO1.out.cell a0 (nl _ (by simp only; omega) (by simp only; omega)), HO1.out.cell a1 (nl _ (by simp only; omega) (by simp only; omega)), HO1.out.cell a2 (nl _ (by simp only; omega) (by simp only; omega)), HO1.out.cell a3 (nl _ (by simp only; omega) (by simp only; omega)), HO1.out.cell a4 (nl _ (by simp only; omega) (by simp only; omega)), HO1.out.cell a5 (nl _ (by simp only; omega) (by simp only; omega)), HO1.out.cell a6 (nl _ (by simp only; omega) (by simp only; omega)), HO1.out.cell a7 (nl _ (by simp only; omega) (by simp only; omega)), HO1.out.cell a8 (nl _ (by simp only; omega) (by simp only; omega)), HO1.out.cell r0 (nl _ (by simp only; omega) (by simp only; omega))⟩))
  have HK1 : Hid _ := hK1
  have HKR : Hid (KeptRow X1 l kg ns.length K0) := HO1.out.owns (owns_below HKR0.out hb0) (fun q hq => by cases hq; exact nl kg (by omega) (Ne.symm hfk))
  have O1 : Hid (OnlyS [l, f, kg] w X1) := onlyS_new (OnlyS.of hb0) HO1.out (fun q hq => .inr (by simp only [List.mem_cons, List.not_mem_nil, or_false] at hq ⊢; rcases hq with h | h; exact .inl h; exact .inr (.inl h)))
  have H01 : Hid (X1.heap[w.heap.size]? = some (.cells #[.int .i64 rc, .int .i64 rm, .int .i64 k, .int .i64 sh, .int .i64 0, .int .i64 0, .bool false, .string ⟨#[]⟩, .bool across] 104)) := HO1.out.blk H0.out (nl _ (by omega) (by omega))
  have H11 : Hid (X1.heap[w.heap.size + 1]? = some (.cells #[.int .i64 0, .slice none 0 0, .int .i64 0, .int .i64 0, .int .i64 0, .int .i64 0, .int .i64 0, .int .i64 0, .bool false, .string ⟨#[]⟩, .int .i64 0, .int .u64 0] 99)) := HO1.out.blk H1.out (nl _ (by omega) (by omega))
  have hx1 := HO1.out.size
  have n3 : ∀ q, q ≠ l → q ≠ f → q ≠ kg → q ∉ [l, f, kg] := fun q h1 h2 h3 => by simp only [List.mem_cons, List.not_mem_nil, or_false, not_or]; exact ⟨h1, h2, h3⟩
  clear ho1 hK1 H0 H1 hb0 HO1 HSK a0 a1 a2 a3 a4 a5 a6 a7 a8 r0
  go_upto_region 4 with fail
  have a0 := blk_c H01.out (Below.refl _ _) (i := 0) rfl
  have a1 := blk_c H01.out (Below.refl _ _) (i := 1) rfl
  have a2 := blk_c H01.out (Below.refl _ _) (i := 2) rfl
  have a3 := blk_c H01.out (Below.refl _ _) (i := 3) rfl
  have a4 := blk_c H01.out (Below.refl _ _) (i := 4) rfl
  have a5 := blk_c H01.out (Below.refl _ _) (i := 5) rfl
  have a6 := blk_c H01.out (Below.refl _ _) (i := 6) rfl
  have a7 := blk_c H01.out (Below.refl _ _) (i := 7) rfl
  have a8 := blk_c H01.out (Below.refl _ _) (i := 8) rfl
  go_wp2_with fail
  refine (chooseA f s m kg ns.length l ns vs rc rm k sh across hit0 K0 X1 HK1.out.find HKR.out HKA0.out hho (fun Z hZ => (HSH.out Z (fun q hq => (hZ.block q (by omega) (by simp only [List.mem_cons, List.not_mem_nil, or_false, not_or]; exact ⟨by omega, by omega⟩)).trans (O1.out.block q (by omega) (n3 _ (by omega) (by omega) (by omega))))).1) rfl hvl hr (by omega) (by omega) hfk).mono ?_
  rintro e X2 ⟨ho2, ⟨td, -, hf2⟩, hres⟩
  have hfk2 : ∀ q, q ≠ f → q ≠ kg → q ∉ [f, kg] := fun q h1 h2 => by simp only [List.mem_cons, List.not_mem_nil, or_false, not_or]; exact ⟨h1, h2⟩
  have H12 : Hid (X2.heap[w.heap.size + 1]? = some (.cells #[.int .i64 0, .slice none 0 0, .int .i64 0, .int .i64 0, .int .i64 0, .int .i64 0, .int .i64 0, .int .i64 0, .bool false, .string ⟨#[]⟩, .int .i64 0, .int .u64 0] 99)) := ho2.blk H11.out (hfk2 _ (by omega) (by omega))
  have hl2 := ho2.blk HK1.out.led (hfk2 l (by omega) (by omega))
  have HL2 : Hid _ := hl2
  have HF2 : Hid _ := hf2
  have O2 : Hid (OnlyS [l, f, kg] w X2) := onlyS_new O1.out ho2 (fun q hq => .inr (by simp only [List.mem_cons, List.not_mem_nil, or_false] at hq ⊢; exact .inr hq))
  have hxx := ho2.size
  clear a0 a1 a2 a3 a4 a5 a6 a7 a8 hl2 hf2 H01 H11 HK1 HKR ho2
  obtain ⟨hit, dv, ok, K, he0, hKa, hKr, hdv1, hdv2, hR⟩ : ∃ (hit : Option Nat) (dv : Array Value) (ok : Bool) (K : List (Nat × Int)), e = .returned (.tuple #[.agg dv, .bool ok]) ∧ KAfter K vs hit ∧ KeptRow X2 l kg ns.length K ∧ dv.size = 12 ∧ dv.all (·.oneCell') = true ∧ ResOk X1.heap.size X2 ns vs rc rm k sh across e hit := by
    rcases hres with ⟨t0, v, nd, q1, q2, q3, q4, ⟨K, q5, q6⟩, g, cap, L, q7, q8, q9⟩ | ⟨q1, ⟨K, q2, q3⟩, q4⟩
    · exact ⟨some t0, _, _, K, q7, q6, q5, rfl, by simp [Value.oneCell'], v, nd, q1, q2, q3, q4, g, cap, L, q7, q8, q9⟩
    · exact ⟨none, _, _, K, q4, q3, q2, rfl, by simp [Value.oneCell'], q1, q4⟩
  subst he0
  have HRK : Hid _ := hR
  have HKa : Hid (KAfter K vs hit) := hKa
  have HKr : Hid (KeptRow X2 l kg ns.length K) := hKr
  have HD1 : Hid (dv.size = 12) := hdv1
  have HD2 : Hid (dv.all (·.oneCell') = true) := hdv2
  clear hres hR hKa hKr hdv1 hdv2
  have hi99 : Hid ((Tryz.prog.info? 99).map (·.size) = some dv.size) := by show _ = _; rw [HD1.out]; kernel_rfl
  have hlfx := heap_lt HF2.out
  have hlkx := ownsRow_lt HKr.out kg rfl
  go_wp2_with (refine wpList_store_blk2 rfl 99 _ _ rfl (w.heap.size + 1) dv rfl rfl 99 _ H12.out hi99.out (by rw [HD1.out]; rfl) HD2.out ?_; intro X3 hw3 ho3; have HW3 : Hid _ := hw3; have HO3 : Hid _ := ho3; clear hw3 ho3)
  have hl3 := (HO3.out.1 l (by omega)).trans HL2.out
  have hf3 := (HO3.out.1 f (by omega)).trans HF2.out
  refine leaves_cons (f := 41) (args := #[.pointer (some ⟨l, 3, none⟩), .pointer (some ⟨f, 0, none⟩)]) (by simp) (by simp [go_sem]) ?_
  refine (giveD l f _ _ .returning X3 hl3 rfl hf3 rfl (by omega)).mono ?_
  rintro e u' X4 ⟨rfl, rfl, ho4, hsz4, hl4, hf4⟩
  have n2 : ∀ q, q ≠ l → q ≠ f → q ∉ [l, f] := fun q h1 h2 => by simp only [List.mem_cons, List.not_mem_nil, or_false, not_or]; exact ⟨h1, h2⟩
  have sz3 := HO3.out.2.1
  have hall : ∀ q, q < X2.heap.size → q ≠ l → q ≠ f → q ≠ w.heap.size + 1 → X4.heap[q]? = X2.heap[q]? := fun q h1 h2 h3 h5 => (ho4.block q (by omega) (n2 q h2 h3)).trans (HO3.out.1 q h5)
  have hd4 : X4.heap[w.heap.size + 1]? = some (.cells dv 99 (0, 0)) := (ho4.block _ (by have := heap_lt HW3.out; omega) (n2 _ (by omega) (by omega))).trans HW3.out
  have O3 : OnlyS [l, f, kg] w X3 := onlyS_new O2.out (T := [w.heap.size + 1]) ⟨HO3.out.2.2.os, HO3.out.2.2.tape, HO3.out.2.2.output, by omega, fun q _ hne => HO3.out.1 q (fun e => hne (by rw [e]; exact List.mem_singleton.2 rfl))⟩ (fun q hq => .inl (by simp only [List.mem_cons, List.not_mem_nil, or_false] at hq; omega))
  have O4 : OnlyS [l, f, kg] w X4 := onlyS_new O3 ho4 (fun q hq => by simp only [List.mem_cons, List.not_mem_nil, or_false] at hq; exact .inr (by simp only [List.mem_cons, List.not_mem_nil, or_false]; rcases hq with h | h; exact .inl h; exact .inr (.inl h)))
  exact ⟨_, results_cell_slot Tryz.results25 _ X4 _ 99 _ (0, 0) _ rfl hd4 Tryz.underlying99 rfl hi99.out, O4, hit, ResOk.move HRK.out (by omega) (fun q h1 h5 => hall q h5 (by omega) (by omega) (by omega))⟩

set_option maxRecDepth 100000 in
set_option maxHeartbeats 8000000 in
theorem led1 (l s m : Nat) (cs : Array Value) (na : Option Addr) (nc : Nat) (ns : List (Int × Int × Nat)) (vs : List Nat) (rc rm : Int) (k : Nat) (sh : Int) (across : Bool) (lc : Array Value) (w : World) (hl : w.heap[l]? = some (.cells lc 96 (0, 0)))
    (hSH : ∀ Z : World, (∀ q, q < l → Z.heap[q]? = w.heap[q]?) → ShelfAt Z s m ns vs ∧ Z.heap[s]? = some (.cells cs 58 (0, 0))) (h0 : cs[0]? = some (.slice na ns.length nc)) (h2 : ns.length < 2) (hvl : vs.length ≤ 65536) (hr : ReqOk k sh) :
    Calls Tryz.prog 25 #[.pointer (some ⟨l, 0, none⟩), .pointer (some ⟨s, 0, none⟩), .agg #[.int .i64 rc, .int .i64 rm, .int .i64 k, .int .i64 sh, .int .i64 0, .int .i64 0, .bool false, .string ⟨#[]⟩, .bool across]] w fun e w' => Below w.heap.size w w' ∧ ∃ hit, ResOk w.heap.size w' ns vs rc rm k sh across e hit := by
  have HL : Hid (w.heap[l]? = some (.cells lc 96 (0, 0))) := hl
  have HSH : Hid (∀ Z : World, (∀ q, q < l → Z.heap[q]? = w.heap[q]?) → ShelfAt Z s m ns vs ∧ Z.heap[s]? = some (.cells cs 58 (0, 0))) := hSH
  have hll := heap_lt hl
  have hs0 : w.cell? ⟨s, 0, none⟩ = some (.slice na ns.length nc) := blk_c (hSH w (fun _ _ => rfl)).2 (Below.refl _ _) h0
  clear hl hSH
  go_enter_defers Tryz.func25, Tryz.ntmps25
  have hb0 : Below w.heap.size w ((w.alloc (.cells #[.int .i64 rc, .int .i64 rm, .int .i64 k, .int .i64 sh, .int .i64 0, .int .i64 0, .bool false, .string ⟨#[]⟩, .bool across] 104)).alloc (.cells #[.int .i64 0, .slice none 0 0, .int .i64 0, .int .i64 0, .int .i64 0, .int .i64 0, .int .i64 0, .int .i64 0, .bool false, .string ⟨#[]⟩, .int .i64 0, .int .u64 0] 99)) := (below_alloc1 _ _).alloc (by simp) _
  have H0 : Hid (((w.alloc (.cells #[.int .i64 rc, .int .i64 rm, .int .i64 k, .int .i64 sh, .int .i64 0, .int .i64 0, .bool false, .string ⟨#[]⟩, .bool across] 104)).alloc (.cells #[.int .i64 0, .slice none 0 0, .int .i64 0, .int .i64 0, .int .i64 0, .int .i64 0, .int .i64 0, .int .i64 0, .bool false, .string ⟨#[]⟩, .int .i64 0, .int .u64 0] 99)).heap[w.heap.size]? = some (.cells #[.int .i64 rc, .int .i64 rm, .int .i64 k, .int .i64 sh, .int .i64 0, .int .i64 0, .bool false, .string ⟨#[]⟩, .bool across] 104)) := by
    show _ = _
    rw [heap_alloc_old _ _ (by simp), heap_alloc_new]
  have H1 : Hid (((w.alloc (.cells #[.int .i64 rc, .int .i64 rm, .int .i64 k, .int .i64 sh, .int .i64 0, .int .i64 0, .bool false, .string ⟨#[]⟩, .bool across] 104)).alloc (.cells #[.int .i64 0, .slice none 0 0, .int .i64 0, .int .i64 0, .int .i64 0, .int .i64 0, .int .i64 0, .int .i64 0, .bool false, .string ⟨#[]⟩, .int .i64 0, .int .u64 0] 99)).heap[w.heap.size + 1]? = some (.cells #[.int .i64 0, .slice none 0 0, .int .i64 0, .int .i64 0, .int .i64 0, .int .i64 0, .int .i64 0, .int .i64 0, .bool false, .string ⟨#[]⟩, .int .i64 0, .int .u64 0] 99)) := heap_alloc2_new w _ _
  go_upto_region 1 with fail
  generalize hW : (w.alloc (.cells #[.int .i64 rc, .int .i64 rm, .int .i64 k, .int .i64 sh, .int .i64 0, .int .i64 0, .bool false, .string ⟨#[]⟩, .bool across] 104)).alloc (.cells #[.int .i64 0, .slice none 0 0, .int .i64 0, .int .i64 0, .int .i64 0, .int .i64 0, .int .i64 0, .int .i64 0, .bool false, .string ⟨#[]⟩, .int .i64 0, .int .u64 0] 99) = W at *
  clear hW
  have HLW : Hid _ := (hb0.block l hll).trans HL.out
  have r0 := (hb0.cell (cell_lt hs0)).trans hs0
  have a0 := blk_c H0.out (Below.refl _ _) (i := 0) rfl
  have a1 := blk_c H0.out (Below.refl _ _) (i := 1) rfl
  have a2 := blk_c H0.out (Below.refl _ _) (i := 2) rfl
  have a3 := blk_c H0.out (Below.refl _ _) (i := 3) rfl
  have a4 := blk_c H0.out (Below.refl _ _) (i := 4) rfl
  have a5 := blk_c H0.out (Below.refl _ _) (i := 5) rfl
  have a6 := blk_c H0.out (Below.refl _ _) (i := 6) rfl
  have a7 := blk_c H0.out (Below.refl _ _) (i := 7) rfl
  have a8 := blk_c H0.out (Below.refl _ _) (i := 8) rfl
  have l1 := heap_lt H1.out
  have hws := hb0.size
  go_region_held3 (fun z : World => z.cell? ⟨w.heap.size, 0, none⟩ = some (.int .i64 rc) ∧ z.cell? ⟨w.heap.size, 1, none⟩ = some (.int .i64 rm) ∧ z.cell? ⟨w.heap.size, 2, none⟩ = some (.int .i64 k) ∧ z.cell? ⟨w.heap.size, 3, none⟩ = some (.int .i64 sh) ∧ z.cell? ⟨w.heap.size, 4, none⟩ = some (.int .i64 0) ∧ z.cell? ⟨w.heap.size, 5, none⟩ = some (.int .i64 0) ∧ z.cell? ⟨w.heap.size, 6, none⟩ = some (.bool false) ∧ z.cell? ⟨w.heap.size, 7, none⟩ = some (.string ⟨#[]⟩) ∧ z.cell? ⟨w.heap.size, 8, none⟩ = some (.bool across) ∧ z.cell? ⟨s, 0, none⟩ = some (.slice na ns.length nc)) (first | exact HSK.out | simp [*]) (first | (go_at_call 40; refine (takeOne l ns.length rc rm k sh across _ h2).mono ?_; rintro e X1 ⟨rfl, hb1⟩; have HB1 : Hid (Below W.heap.size W X1) := ⟨hb1.os, hb1.tape, hb1.output, hb1.size, hb1.block⟩; have HSK : Hid ((fun z : World => z.cell? ⟨w.heap.size, 0, none⟩ = some (.int .i64 rc) ∧ z.cell? ⟨w.heap.size, 1, none⟩ = some (.int .i64 rm) ∧ z.cell? ⟨w.heap.size, 2, none⟩ = some (.int .i64 k) ∧ z.cell? ⟨w.heap.size, 3, none⟩ = some (.int .i64 sh) ∧ z.cell? ⟨w.heap.size, 4, none⟩ = some (.int .i64 0) ∧ z.cell? ⟨w.heap.size, 5, none⟩ = some (.int .i64 0) ∧ z.cell? ⟨w.heap.size, 6, none⟩ = some (.bool false) ∧ z.cell? ⟨w.heap.size, 7, none⟩ = some (.string ⟨#[]⟩) ∧ z.cell? ⟨w.heap.size, 8, none⟩ = some (.bool across) ∧ z.cell? ⟨s, 0, none⟩ = some (.slice na ns.length nc)) X1) := ⟨(HB1.out.cell (cell_lt a0)).trans a0, (HB1.out.cell (cell_lt a1)).trans a1, (HB1.out.cell (cell_lt a2)).trans a2, (HB1.out.cell (cell_lt a3)).trans a3, (HB1.out.cell (cell_lt a4)).trans a4, (HB1.out.cell (cell_lt a5)).trans a5, (HB1.out.cell (cell_lt a6)).trans a6, (HB1.out.cell (cell_lt a7)).trans a7, (HB1.out.cell (cell_lt a8)).trans a8, (HB1.out.cell (cell_lt r0)).trans r0⟩))
  have hx1s : w.heap.size + 1 < X1.heap.size := Nat.lt_of_lt_of_le l1 HB1.out.size
  have O1 : Hid (Below w.heap.size w X1) := hb0.trans (HB1.out.mono hb0.size)
  have H01 : Hid (X1.heap[w.heap.size]? = some (.cells #[.int .i64 rc, .int .i64 rm, .int .i64 k, .int .i64 sh, .int .i64 0, .int .i64 0, .bool false, .string ⟨#[]⟩, .bool across] 104)) := (HB1.out.block _ (heap_lt H0.out)).trans H0.out
  have H11 : Hid (X1.heap[w.heap.size + 1]? = some (.cells #[.int .i64 0, .slice none 0 0, .int .i64 0, .int .i64 0, .int .i64 0, .int .i64 0, .int .i64 0, .int .i64 0, .bool false, .string ⟨#[]⟩, .int .i64 0, .int .u64 0] 99)) := (HB1.out.block _ l1).trans H1.out
  clear hb1 H0 H1 hb0 HB1 HSK a0 a1 a2 a3 a4 a5 a6 a7 a8 r0
  go_upto_region 4 with fail
  have a0 := blk_c H01.out (Below.refl _ _) (i := 0) rfl
  have a1 := blk_c H01.out (Below.refl _ _) (i := 1) rfl
  have a2 := blk_c H01.out (Below.refl _ _) (i := 2) rfl
  have a3 := blk_c H01.out (Below.refl _ _) (i := 3) rfl
  have a4 := blk_c H01.out (Below.refl _ _) (i := 4) rfl
  have a5 := blk_c H01.out (Below.refl _ _) (i := 5) rfl
  have a6 := blk_c H01.out (Below.refl _ _) (i := 6) rfl
  have a7 := blk_c H01.out (Below.refl _ _) (i := 7) rfl
  have a8 := blk_c H01.out (Below.refl _ _) (i := 8) rfl
  go_wp2_with fail
  refine (chooseN s m ns vs rc rm k sh across X1 (HSH.out X1 (fun q hq => O1.out.block q (by omega))).1 hvl hr).mono ?_
  rintro e X2 ⟨hb2, hres⟩
  have O2 : Hid (Below w.heap.size w X2) := O1.out.trans (hb2.mono O1.out.size)
  have H12 : Hid (X2.heap[w.heap.size + 1]? = some (.cells #[.int .i64 0, .slice none 0 0, .int .i64 0, .int .i64 0, .int .i64 0, .int .i64 0, .int .i64 0, .int .i64 0, .bool false, .string ⟨#[]⟩, .int .i64 0, .int .u64 0] 99)) := (hb2.block _ (heap_lt H11.out)).trans H11.out
  clear a0 a1 a2 a3 a4 a5 a6 a7 a8 H01 H11
  obtain ⟨hit, dv, ok, he0, hdv1, hdv2, hR⟩ : ∃ (hit : Option Nat) (dv : Array Value) (ok : Bool), e = .returned (.tuple #[.agg dv, .bool ok]) ∧ dv.size = 12 ∧ dv.all (·.oneCell') = true ∧ ResOk X1.heap.size X2 ns vs rc rm k sh across e hit := by
    rcases hres with ⟨v, nd, ⟨t0, q1, q2, q3, q4⟩, g, cap, L, q7, q8, q9⟩ | ⟨q1, q4⟩
    · exact ⟨some t0, _, _, q7, rfl, by simp [Value.oneCell'], v, nd, q1, q2, q3, q4, g, cap, L, q7, q8, q9⟩
    · exact ⟨none, _, _, q4, rfl, by simp [Value.oneCell'], q1, q4⟩
  subst he0
  have HRK : Hid _ := hR
  have HD1 : Hid (dv.size = 12) := hdv1
  have HD2 : Hid (dv.all (·.oneCell') = true) := hdv2
  have hw1 := O1.out.size
  clear hres hR hdv1 hdv2 hb2
  have hi99 : Hid ((Tryz.prog.info? 99).map (·.size) = some dv.size) := by show _ = _; rw [HD1.out]; kernel_rfl
  go_wp2_with (refine wpList_store_blk2 rfl 99 _ _ rfl (w.heap.size + 1) dv rfl rfl 99 _ H12.out hi99.out (by rw [HD1.out]; rfl) HD2.out ?_; intro X3 hw3 ho3; have HW3 : Hid _ := hw3; have HO3 : Hid _ := ho3; clear hw3 ho3)
  exact ⟨_, results_cell_slot Tryz.results25 _ X3 _ 99 _ (0, 0) _ rfl HW3.out Tryz.underlying99 rfl hi99.out, O2.out.trans (HO3.out.2.2.mono (Nat.le_succ _)), hit, ResOk.move HRK.out hw1 (fun q h1 h5 => HO3.out.1 q (by have := hx1s; omega))⟩

end Go.Proofs.Qxb6612460aGreatFmt
