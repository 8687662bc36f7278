/-
  ZZledgerChoose.
-/
import Derived.Test.Qxb6612460aGreatFmtLed
import Derived.Test.Qxb6612460aGreatFmtHeldK
import Derived.Test.Qxb6612460aGreatFmtAtomic
namespace Go.Proofs.Qxb6612460aGreatFmt
open Go.RowKit Go.Sort Go.MuLone
attribute [local go_sem] Option.isNone_none Option.isNone_some
attribute [local go_sem] sUpon mUpon
attribute [local go_sem] Mix.isVal Mix.makes
attribute [local go_sem] yields1

theorem set10_other (W : World) (g q : Nat) (hne : q ≠ g) (v0 v1 v2 v3 v4 v5 v6 v7 v8 v9 : Value) : ((((((((((((W).setCell ⟨g, 0, none⟩ v0).setCell ⟨g, 1, none⟩ v1).setCell ⟨g, 2, none⟩ v2).setCell ⟨g, 3, none⟩ v3).setCell ⟨g, 4, none⟩ v4).setCell ⟨g, 5, none⟩ v5).setCell ⟨g, 6, none⟩ v6).setCell ⟨g, 7, none⟩ v7).setCell ⟨g, 8, none⟩ v8).setCell ⟨g, 9, none⟩ v9).drew).heap[q]? = W.heap[q]? := by
  have e : ∀ (Y : World) (i : Nat) (v : Value), (Y.setCell ⟨g, i, none⟩ v).heap[q]? = Y.heap[q]? := fun Y i v => Below.heap_setCell Y _ v q hne
  have d : ∀ Y : World, Y.drew.heap = Y.heap := fun _ => rfl
  rw [d]
  simp only [e]
theorem ResOk.form {B : Nat} {w' : World} {ns : List (Int × Int × Nat)} {vs : List Nat} {rc rm : Int} {k : Nat} {sh : Int} {across : Bool} {e : Ending} {hit : Option Nat} (h : ResOk B w' ns vs rc rm k sh across e hit) : ∃ (n0 : Int) (ia : Option Addr) (il ic : Nat) (c0 m0 g0 s1 : Int) (ok : Bool), e = .returned (.tuple #[.agg #[.int .i64 n0, .slice ia il ic, .int .i64 c0, .int .i64 m0, .int .i64 g0, .int .i64 s1, .int .i64 0, .int .i64 0, .bool false, .string ⟨#[]⟩, .int .i64 0, .int .u64 0], .bool ok]) := by
  cases hit with
  | none => exact ⟨0, none, 0, 0, 0, 0, 0, 0, false, h.2⟩
  | some t0 =>
    obtain ⟨v, nd, _, _, _, _, g, cap, L, h5, _⟩ := h
    exact ⟨v, some ⟨g, 0, none⟩, k, cap, rc, rm, k, sh, true, h5⟩
/-- What stands behind region 1. -/
def ZEnd (E : Option Nat → World → Prop) (T : List Nat) (w : World) (ns : List (Int × Int × Nat)) (vs : List Nat) (rc rm : Int) (k : Nat) (sh : Int) (across : Bool) (g9 : Nat) (n0 : Int) (ia : Option Addr) (il ic : Nat) (c0 m0 g0 s1 : Int) (ok : Bool) (wx : World) : Prop :=
  wx.heap[g9]? = some (.cells #[.int .i64 n0, .slice ia il ic, .int .i64 c0, .int .i64 m0, .int .i64 g0, .int .i64 s1, .int .i64 0, .int .i64 0, .bool false, .string ⟨#[]⟩, .int .i64 0, .int .u64 0] 99 (0, 0)) ∧ wx.heap[w.heap.size + 1]? = some (.cells #[.int .i64 0, .slice none 0 0, .int .i64 0, .int .i64 0, .int .i64 0, .int .i64 0, .int .i64 0, .int .i64 0, .bool false, .string ⟨#[]⟩] 36) ∧ g9 ≠ w.heap.size + 1 ∧ OnlyS T w wx ∧ ∃ hit e, E hit wx ∧ e = .returned (.tuple #[.agg #[.int .i64 n0, .slice ia il ic, .int .i64 c0, .int .i64 m0, .int .i64 g0, .int .i64 s1, .int .i64 0, .int .i64 0, .bool false, .string ⟨#[]⟩, .int .i64 0, .int .u64 0], .bool ok]) ∧ ResOk w.heap.size wx ns vs rc rm k sh across e hit
theorem ResOk.keep {B B' : Nat} {X Z : World} {g9 : Nat} {ns : List (Int × Int × Nat)} {vs : List Nat} {rc rm : Int} {k : Nat} {sh : Int} {across : Bool} {e : Ending} {hit : Option Nat} (h : ResOk B X ns vs rc rm k sh across e hit) (hB : B' ≤ B) (hX : ∀ q, q < X.heap.size → q ≠ g9 → Z.heap[q]? = X.heap[q]?) (h9 : ∀ cs t fz, X.heap[g9]? = some (.cells cs t fz) → t ≠ 3) : ResOk B' Z ns vs rc rm k sh across e hit := by
  cases hit with
  | none => exact h
  | some t0 =>
    obtain ⟨v, nd, h1, h2, h3, h4, g, cap, L, h5, h6, h7⟩ := h
    refine ⟨v, nd, h1, h2, h3, h4, g, cap, L, h5, owns_low (ownsRow_same h6 (fun q hq => hX q (ownsRow_lt h6 q hq) (fun e9 => ?_))) hB, h7⟩
    obtain ⟨-, h | ⟨g', cap', cur, q1, -, q3, -⟩⟩ := h6
    · cases h.1
    · cases q1
      cases hq
      have e9' : g = g9 := e9
      subst e9'
      exact h9 _ _ _ q3 rfl
theorem nine_ne {X : World} {g9 : Nat} {cs : Array Value} {t : Nat} {fz : Nat × Nat} (h9 : X.heap[g9]? = none ∨ ∃ cs fz, X.heap[g9]? = some (.cells cs 99 fz)) (h : X.heap[g9]? = some (.cells cs t fz)) : t ≠ 3 := by
  rcases h9 with h9 | ⟨cs', fz', h9⟩
  · rw [h9] at h; cases h
  · rw [h9] at h; cases h; decide
theorem zend_of {E : Option Nat → World → Prop} {T : List Nat} {w Y X Z : World} {ns : List (Int × Int × Nat)} {vs : List Nat} {rc rm : Int} {k : Nat} {sh : Int} {across : Bool} {g9 : Nat} {n0 : Int} {ia : Option Addr} {il ic : Nat} {c0 m0 g0 s1 : Int} {ok : Bool} {e : Ending} {hit : Option Nat}
    (hEs : ∀ hit X Z g9, (∀ q, q < X.heap.size → q ≠ g9 → Z.heap[q]? = X.heap[q]?) → (X.heap[g9]? = none ∨ ∃ cs fz, X.heap[g9]? = some (.cells cs 99 fz)) → E hit X → E hit Z) (hres : ResOk Y.heap.size X ns vs rc rm k sh across e hit) (hE : E hit X) (ho : OnlyS T Y X) (hb : Below w.heap.size w Y) (hYs : w.heap.size ≤ Y.heap.size)
    (he : e = .returned (.tuple #[.agg #[.int .i64 n0, .slice ia il ic, .int .i64 c0, .int .i64 m0, .int .i64 g0, .int .i64 s1, .int .i64 0, .int .i64 0, .bool false, .string ⟨#[]⟩, .int .i64 0, .int .u64 0], .bool ok])) (h1 : X.heap[w.heap.size + 1]? = some (.cells #[.int .i64 0, .slice none 0 0, .int .i64 0, .int .i64 0, .int .i64 0, .int .i64 0, .int .i64 0, .int .i64 0, .bool false, .string ⟨#[]⟩] 36)) (hk : OnlyS [g9] X Z ∧ ∀ q, q < X.heap.size → q ≠ g9 → Z.heap[q]? = X.heap[q]?) (h9 : X.heap[g9]? = none ∨ ∃ cs fz, X.heap[g9]? = some (.cells cs 99 fz)) (hZ : Z.heap[g9]? = some (.cells #[.int .i64 n0, .slice ia il ic, .int .i64 c0, .int .i64 m0, .int .i64 g0, .int .i64 s1, .int .i64 0, .int .i64 0, .bool false, .string ⟨#[]⟩, .int .i64 0, .int .u64 0] 99 (0, 0))) (hg : w.heap.size + 1 < g9) (hl1 : w.heap.size + 1 < X.heap.size) (zs : Nat) (_hzs : X.heap.size ≤ zs) (_hzz : zs = Z.heap.size) : ZEnd E T w ns vs rc rm k sh across g9 n0 ia il ic c0 m0 g0 s1 ok Z := by
  refine ⟨hZ, (hk.2 _ hl1 (by omega)).trans h1, by omega, ?_, hit, e, hEs hit X Z g9 hk.2 h9 hE, he, hres.keep hYs hk.2 (fun cs t fz h => nine_ne h9 h)⟩
  refine onlyS_new ((OnlyS.of hb).trans ho) hk.1 (fun q hq => .inl ?_)
  simp only [List.mem_cons, List.not_mem_nil, or_false] at hq
  omega
/-- The answer that the law wants. -/
def ZRes (B : Nat) (w' : World) (ns : List (Int × Int × Nat)) (vs : List Nat) (rc rm : Int) (k : Nat) (sh : Int) (across : Bool) (e : Ending) : Prop :=
  (∃ (v : Nat) (nd : Int × Int × Nat), HitN ns vs rc rm k v nd ∧ ∃ (g cap : Nat) (L : List Nat), e = .returned (.tuple #[grantVN v (.slice (some ⟨g, 0, none⟩) k cap) rc rm k sh, .int .i64 0, .bool true]) ∧ w'.ownsRow B 3 1 (.slice (some ⟨g, 0, none⟩) k cap) k (L.map natV) ∧ GrantedIds (List.replicate nd.2.2 (0, true)) k (!across) L) ∨
  (NoneN ns vs rc rm k ∧ e = .returned (.tuple #[grantVN 0 (.slice none 0 0) 0 0 0 0, .int .i64 0, .bool false]))
theorem zres_of {B : Nat} {X Z : World} {ns : List (Int × Int × Nat)} {vs : List Nat} {rc rm : Int} {k : Nat} {sh : Int} {across : Bool} {n0 : Int} {ia : Option Addr} {il ic : Nat} {c0 m0 g0 s1 : Int} {ok : Bool} {e : Ending} {hit : Option Nat} (hres : ResOk B X ns vs rc rm k sh across e hit) (he : e = .returned (.tuple #[.agg #[.int .i64 n0, .slice ia il ic, .int .i64 c0, .int .i64 m0, .int .i64 g0, .int .i64 s1, .int .i64 0, .int .i64 0, .bool false, .string ⟨#[]⟩, .int .i64 0, .int .u64 0], .bool ok])) (hZ : ∀ v n xs, X.ownsRow B 3 1 v n xs → Z.ownsRow B 3 1 v n xs) : ZRes B Z ns vs rc rm k sh across (.returned (.tuple #[grantVN n0 (.slice ia il ic) c0 m0 g0 s1, .int .i64 0, .bool ok])) := by
  cases hit with
  | none =>
    obtain ⟨h1, h2⟩ := hres
    rw [he] at h2
    simp only [decVN, Ending.returned.injEq, Value.tuple.injEq, Array.mk.injEq, List.cons.injEq, Value.agg.injEq, Value.int.injEq, Value.slice.injEq, Value.bool.injEq, true_and, and_true] at h2
    obtain ⟨⟨rfl, ⟨rfl, rfl, rfl⟩, rfl, rfl, rfl, rfl⟩, rfl⟩ := h2
    exact .inr ⟨h1, rfl⟩
  | some t0 =>
    obtain ⟨v, nd, h1, h2, h3, h4, g, cap, L, h5, h6, h7⟩ := hres
    rw [he] at h5
    simp only [decVN, Ending.returned.injEq, Value.tuple.injEq, Array.mk.injEq, List.cons.injEq, Value.agg.injEq, Value.int.injEq, Value.slice.injEq, Value.bool.injEq, true_and, and_true] at h5
    obtain ⟨⟨rfl, ⟨rfl, rfl, rfl⟩, rfl, rfl, rfl, rfl⟩, rfl⟩ := h5
    exact .inl ⟨v, nd, ⟨t0, h1, h2, h3, h4⟩, _, _, L, rfl, hZ _ _ _ h6, h7⟩

theorem onlyS_drew {T : List Nat} {a w : World} (h : OnlyS T a w) : OnlyS T a w.drew := ⟨h.os, h.tape, h.output, h.size, h.block⟩
set_option maxRecDepth 100000 in
set_option maxHeartbeats 8000000 in
theorem zzLgen (E : Option Nat → World → Prop) (T : List Nat) (l s m : Nat) (cs lc : Array Value) (ns : List (Int × Int × Nat)) (vs : List Nat) (rc rm : Int) (k : Nat) (sh : Int) (across : Bool) (w : World) (hl : w.heap[l]? = some (.cells lc 96 (0, 0))) (h2l : lc[2]? = some (.pointer (some ⟨s, 0, none⟩)))
    (hSH : ∀ Z : World, (∀ q, q < l → Z.heap[q]? = w.heap[q]?) → ShelfAt Z s m ns vs ∧ Z.heap[s]? = some (.cells cs 58 (0, 0))) (hcs : cs.size = 4) (hTl : ∀ q ∈ T, q < w.heap.size)
    (hEs : ∀ hit X Z g9, (∀ q, q < X.heap.size → q ≠ g9 → Z.heap[q]? = X.heap[q]?) → (X.heap[g9]? = none ∨ ∃ cs fz, X.heap[g9]? = some (.cells cs 99 fz)) → E hit X → E hit Z)
    (hEg : ∀ hit X, E hit X → ∀ Z : World, (∀ q, q < X.heap.size → q ≠ w.heap.size + 1 → Z.heap[q]? = X.heap[q]?) → X.heap[w.heap.size + 1]? = some (.cells #[.int .i64 0, .slice none 0 0, .int .i64 0, .int .i64 0, .int .i64 0, .int .i64 0, .int .i64 0, .int .i64 0, .bool false, .string ⟨#[]⟩] 36) → E hit Z)
    (hcall : ∀ Y, Below w.heap.size w Y → Calls Tryz.prog 25 #[.pointer (some ⟨l, 0, none⟩), .pointer (some ⟨s, 0, none⟩), .agg #[.int .i64 rc, .int .i64 rm, .int .i64 k, .int .i64 sh, .int .i64 0, .int .i64 0, .bool false, .string ⟨#[]⟩, .bool across]] Y fun e X => OnlyS T Y X ∧ ∃ hit, E hit X ∧ ResOk Y.heap.size X ns vs rc rm k sh across e hit) :
    Calls Tryz.prog 17 #[.pointer (some ⟨l, 0, none⟩), reqV rc rm k sh, .bool across] w fun e w' => OnlyS T w w' ∧ (∃ hit, E hit w') ∧ ZRes w.heap.size w' ns vs rc rm k sh across e := by
  unfold reqV
  have HL : Hid (w.heap[l]? = some (.cells lc 96 (0, 0))) := hl
  have HSH : Hid (∀ Z : World, (∀ q, q < l → Z.heap[q]? = w.heap[q]?) → ShelfAt Z s m ns vs ∧ Z.heap[s]? = some (.cells cs 58 (0, 0))) := hSH
  have HCALL : Hid (∀ Y, Below w.heap.size w Y → Calls Tryz.prog 25 #[.pointer (some ⟨l, 0, none⟩), .pointer (some ⟨s, 0, none⟩), .agg #[.int .i64 rc, .int .i64 rm, .int .i64 k, .int .i64 sh, .int .i64 0, .int .i64 0, .bool false, .string ⟨#[]⟩, .bool across]] Y fun e X => OnlyS T Y X ∧ ∃ hit, E hit X ∧ ResOk Y.heap.size X ns vs rc rm k sh across e hit) := hcall
  have hll := heap_lt hl
  have hTn : ∀ q, w.heap.size ≤ q → q ∉ T := fun q hq e => by have := hTl q e; omega
  clear hl hSH hcall
  go_enter Tryz.func17, Tryz.ntmps17
  have hb0 : Below w.heap.size w ((w.alloc (.cells #[.int .i64 rc, .int .i64 rm, .int .i64 k, .int .i64 sh, .int .i64 0, .int .i64 0, .bool false, .string ⟨#[]⟩] 34)).alloc (.cells #[.int .i64 0, .slice none 0 0, .int .i64 0, .int .i64 0, .int .i64 0, .int .i64 0, .int .i64 0, .int .i64 0, .bool false, .string ⟨#[]⟩] 36)) := (below_alloc1 _ _).alloc (by simp) _
  have H0 : Hid (((w.alloc (.cells #[.int .i64 rc, .int .i64 rm, .int .i64 k, .int .i64 sh, .int .i64 0, .int .i64 0, .bool false, .string ⟨#[]⟩] 34)).alloc (.cells #[.int .i64 0, .slice none 0 0, .int .i64 0, .int .i64 0, .int .i64 0, .int .i64 0, .int .i64 0, .int .i64 0, .bool false, .string ⟨#[]⟩] 36)).heap[w.heap.size]? = some (.cells #[.int .i64 rc, .int .i64 rm, .int .i64 k, .int .i64 sh, .int .i64 0, .int .i64 0, .bool false, .string ⟨#[]⟩] 34)) := by
    show _ = _
    rw [heap_alloc_old _ _ (by simp), heap_alloc_new]
  have H1 : Hid (((w.alloc (.cells #[.int .i64 rc, .int .i64 rm, .int .i64 k, .int .i64 sh, .int .i64 0, .int .i64 0, .bool false, .string ⟨#[]⟩] 34)).alloc (.cells #[.int .i64 0, .slice none 0 0, .int .i64 0, .int .i64 0, .int .i64 0, .int .i64 0, .int .i64 0, .int .i64 0, .bool false, .string ⟨#[]⟩] 36)).heap[w.heap.size + 1]? = some (.cells #[.int .i64 0, .slice none 0 0, .int .i64 0, .int .i64 0, .int .i64 0, .int .i64 0, .int .i64 0, .int .i64 0, .bool false, .string ⟨#[]⟩] 36)) := heap_alloc2_new w _ _
  have hsz : w.heap.size + 1 < ((w.alloc (.cells #[.int .i64 rc, .int .i64 rm, .int .i64 k, .int .i64 sh, .int .i64 0, .int .i64 0, .bool false, .string ⟨#[]⟩] 34)).alloc (.cells #[.int .i64 0, .slice none 0 0, .int .i64 0, .int .i64 0, .int .i64 0, .int .i64 0, .int .i64 0, .int .i64 0, .bool false, .string ⟨#[]⟩] 36)).heap.size := by simp
  go_upto_region 1 with fail
  generalize hW : (w.alloc (.cells #[.int .i64 rc, .int .i64 rm, .int .i64 k, .int .i64 sh, .int .i64 0, .int .i64 0, .bool false, .string ⟨#[]⟩] 34)).alloc (.cells #[.int .i64 0, .slice none 0 0, .int .i64 0, .int .i64 0, .int .i64 0, .int .i64 0, .int .i64 0, .int .i64 0, .bool false, .string ⟨#[]⟩] 36) = W at *
  clear hW
  have HSW : Hid ((fun z : World => z.cell? ⟨w.heap.size, 0, none⟩ = some (.int .i64 rc) ∧ z.cell? ⟨w.heap.size, 1, none⟩ = some (.int .i64 rm) ∧ z.cell? ⟨w.heap.size, 2, none⟩ = some (.int .i64 k) ∧ z.cell? ⟨w.heap.size, 3, none⟩ = some (.int .i64 sh) ∧ z.cell? ⟨w.heap.size, 4, none⟩ = some (.int .i64 0) ∧ z.cell? ⟨w.heap.size, 5, none⟩ = some (.int .i64 0) ∧ z.cell? ⟨w.heap.size, 6, none⟩ = some (.bool false) ∧ z.cell? ⟨w.heap.size, 7, none⟩ = some (.string ⟨#[]⟩)) W) := ⟨blk_c H0.out (Below.refl _ _) (i := 0) rfl, blk_c H0.out (Below.refl _ _) (i := 1) rfl, blk_c H0.out (Below.refl _ _) (i := 2) rfl, blk_c H0.out (Below.refl _ _) (i := 3) rfl, blk_c H0.out (Below.refl _ _) (i := 4) rfl, blk_c H0.out (Below.refl _ _) (i := 5) rfl, blk_c H0.out (Below.refl _ _) (i := 6) rfl, blk_c H0.out (Below.refl _ _) (i := 7) rfl⟩
  go_cut [9, 10] from 11 to 22 (fun v9 v10 wx => ∃ (g9 : Nat) (n0 : Int) (ia : Option Addr) (il ic : Nat) (c0 m0 g0 s1 : Int) (ok : Bool), v9 = .pointer (some ⟨g9, 0, none⟩) ∧ v10 = .bool ok ∧ Hid (ZEnd E T w ns vs rc rm k sh across g9 n0 ia il ic c0 m0 g0 s1 ok wx))
  case first =>
    refine wp_region_held (S := fun z : World => z.cell? ⟨w.heap.size, 0, none⟩ = some (.int .i64 rc) ∧ z.cell? ⟨w.heap.size, 1, none⟩ = some (.int .i64 rm) ∧ z.cell? ⟨w.heap.size, 2, none⟩ = some (.int .i64 k) ∧ z.cell? ⟨w.heap.size, 3, none⟩ = some (.int .i64 sh) ∧ z.cell? ⟨w.heap.size, 4, none⟩ = some (.int .i64 0) ∧ z.cell? ⟨w.heap.size, 5, none⟩ = some (.int .i64 0) ∧ z.cell? ⟨w.heap.size, 6, none⟩ = some (.bool false) ∧ z.cell? ⟨w.heap.size, 7, none⟩ = some (.string ⟨#[]⟩)) (by kernel_rfl) ?_
    generalize hWd : ({ W with drawn := W.drawn + 1 } : World) = Y0
    have HSY0 : Hid ((fun z : World => z.cell? ⟨w.heap.size, 0, none⟩ = some (.int .i64 rc) ∧ z.cell? ⟨w.heap.size, 1, none⟩ = some (.int .i64 rm) ∧ z.cell? ⟨w.heap.size, 2, none⟩ = some (.int .i64 k) ∧ z.cell? ⟨w.heap.size, 3, none⟩ = some (.int .i64 sh) ∧ z.cell? ⟨w.heap.size, 4, none⟩ = some (.int .i64 0) ∧ z.cell? ⟨w.heap.size, 5, none⟩ = some (.int .i64 0) ∧ z.cell? ⟨w.heap.size, 6, none⟩ = some (.bool false) ∧ z.cell? ⟨w.heap.size, 7, none⟩ = some (.string ⟨#[]⟩)) Y0) := by show (fun z : World => z.cell? ⟨w.heap.size, 0, none⟩ = some (.int .i64 rc) ∧ z.cell? ⟨w.heap.size, 1, none⟩ = some (.int .i64 rm) ∧ z.cell? ⟨w.heap.size, 2, none⟩ = some (.int .i64 k) ∧ z.cell? ⟨w.heap.size, 3, none⟩ = some (.int .i64 sh) ∧ z.cell? ⟨w.heap.size, 4, none⟩ = some (.int .i64 0) ∧ z.cell? ⟨w.heap.size, 5, none⟩ = some (.int .i64 0) ∧ z.cell? ⟨w.heap.size, 6, none⟩ = some (.bool false) ∧ z.cell? ⟨w.heap.size, 7, none⟩ = some (.string ⟨#[]⟩)) Y0; rw [← hWd]; exact HSW.out
    have belY0 : Below w.heap.size w Y0 := by rw [← hWd]; exact ⟨hb0.os, hb0.tape, hb0.output, hb0.size, hb0.block⟩
    have belY0b : Y0.heap[w.heap.size + 1]? = W.heap[w.heap.size + 1]? := by rw [← hWd]
    have hsY0 : w.heap.size + 1 < Y0.heap.size := by rw [← hWd]; exact hsz
    clear hWd
    have s0 : ∀ p : { z : World // (fun z : World => z.cell? ⟨w.heap.size, 0, none⟩ = some (.int .i64 rc) ∧ z.cell? ⟨w.heap.size, 1, none⟩ = some (.int .i64 rm) ∧ z.cell? ⟨w.heap.size, 2, none⟩ = some (.int .i64 k) ∧ z.cell? ⟨w.heap.size, 3, none⟩ = some (.int .i64 sh) ∧ z.cell? ⟨w.heap.size, 4, none⟩ = some (.int .i64 0) ∧ z.cell? ⟨w.heap.size, 5, none⟩ = some (.int .i64 0) ∧ z.cell? ⟨w.heap.size, 6, none⟩ = some (.bool false) ∧ z.cell? ⟨w.heap.size, 7, none⟩ = some (.string ⟨#[]⟩)) z }, p.1.cell? ⟨w.heap.size, 0, none⟩ = some (.int .i64 rc) := fun p => p.2.1
    have s1 : ∀ p : { z : World // (fun z : World => z.cell? ⟨w.heap.size, 0, none⟩ = some (.int .i64 rc) ∧ z.cell? ⟨w.heap.size, 1, none⟩ = some (.int .i64 rm) ∧ z.cell? ⟨w.heap.size, 2, none⟩ = some (.int .i64 k) ∧ z.cell? ⟨w.heap.size, 3, none⟩ = some (.int .i64 sh) ∧ z.cell? ⟨w.heap.size, 4, none⟩ = some (.int .i64 0) ∧ z.cell? ⟨w.heap.size, 5, none⟩ = some (.int .i64 0) ∧ z.cell? ⟨w.heap.size, 6, none⟩ = some (.bool false) ∧ z.cell? ⟨w.heap.size, 7, none⟩ = some (.string ⟨#[]⟩)) z }, p.1.cell? ⟨w.heap.size, 1, none⟩ = some (.int .i64 rm) := fun p => p.2.2.1
    have s2 : ∀ p : { z : World // (fun z : World => z.cell? ⟨w.heap.size, 0, none⟩ = some (.int .i64 rc) ∧ z.cell? ⟨w.heap.size, 1, none⟩ = some (.int .i64 rm) ∧ z.cell? ⟨w.heap.size, 2, none⟩ = some (.int .i64 k) ∧ z.cell? ⟨w.heap.size, 3, none⟩ = some (.int .i64 sh) ∧ z.cell? ⟨w.heap.size, 4, none⟩ = some (.int .i64 0) ∧ z.cell? ⟨w.heap.size, 5, none⟩ = some (.int .i64 0) ∧ z.cell? ⟨w.heap.size, 6, none⟩ = some (.bool false) ∧ z.cell? ⟨w.heap.size, 7, none⟩ = some (.string ⟨#[]⟩)) z }, p.1.cell? ⟨w.heap.size, 2, none⟩ = some (.int .i64 k) := fun p => p.2.2.2.1
    have s3 : ∀ p : { z : World // (fun z : World => z.cell? ⟨w.heap.size, 0, none⟩ = some (.int .i64 rc) ∧ z.cell? ⟨w.heap.size, 1, none⟩ = some (.int .i64 rm) ∧ z.cell? ⟨w.heap.size, 2, none⟩ = some (.int .i64 k) ∧ z.cell? ⟨w.heap.size, 3, none⟩ = some (.int .i64 sh) ∧ z.cell? ⟨w.heap.size, 4, none⟩ = some (.int .i64 0) ∧ z.cell? ⟨w.heap.size, 5, none⟩ = some (.int .i64 0) ∧ z.cell? ⟨w.heap.size, 6, none⟩ = some (.bool false) ∧ z.cell? ⟨w.heap.size, 7, none⟩ = some (.string ⟨#[]⟩)) z }, p.1.cell? ⟨w.heap.size, 3, none⟩ = some (.int .i64 sh) := fun p => p.2.2.2.2.1
    have s4 : ∀ p : { z : World // (fun z : World => z.cell? ⟨w.heap.size, 0, none⟩ = some (.int .i64 rc) ∧ z.cell? ⟨w.heap.size, 1, none⟩ = some (.int .i64 rm) ∧ z.cell? ⟨w.heap.size, 2, none⟩ = some (.int .i64 k) ∧ z.cell? ⟨w.heap.size, 3, none⟩ = some (.int .i64 sh) ∧ z.cell? ⟨w.heap.size, 4, none⟩ = some (.int .i64 0) ∧ z.cell? ⟨w.heap.size, 5, none⟩ = some (.int .i64 0) ∧ z.cell? ⟨w.heap.size, 6, none⟩ = some (.bool false) ∧ z.cell? ⟨w.heap.size, 7, none⟩ = some (.string ⟨#[]⟩)) z }, p.1.cell? ⟨w.heap.size, 4, none⟩ = some (.int .i64 0) := fun p => p.2.2.2.2.2.1
    have s5 : ∀ p : { z : World // (fun z : World => z.cell? ⟨w.heap.size, 0, none⟩ = some (.int .i64 rc) ∧ z.cell? ⟨w.heap.size, 1, none⟩ = some (.int .i64 rm) ∧ z.cell? ⟨w.heap.size, 2, none⟩ = some (.int .i64 k) ∧ z.cell? ⟨w.heap.size, 3, none⟩ = some (.int .i64 sh) ∧ z.cell? ⟨w.heap.size, 4, none⟩ = some (.int .i64 0) ∧ z.cell? ⟨w.heap.size, 5, none⟩ = some (.int .i64 0) ∧ z.cell? ⟨w.heap.size, 6, none⟩ = some (.bool false) ∧ z.cell? ⟨w.heap.size, 7, none⟩ = some (.string ⟨#[]⟩)) z }, p.1.cell? ⟨w.heap.size, 5, none⟩ = some (.int .i64 0) := fun p => p.2.2.2.2.2.2.1
    have s6 : ∀ p : { z : World // (fun z : World => z.cell? ⟨w.heap.size, 0, none⟩ = some (.int .i64 rc) ∧ z.cell? ⟨w.heap.size, 1, none⟩ = some (.int .i64 rm) ∧ z.cell? ⟨w.heap.size, 2, none⟩ = some (.int .i64 k) ∧ z.cell? ⟨w.heap.size, 3, none⟩ = some (.int .i64 sh) ∧ z.cell? ⟨w.heap.size, 4, none⟩ = some (.int .i64 0) ∧ z.cell? ⟨w.heap.size, 5, none⟩ = some (.int .i64 0) ∧ z.cell? ⟨w.heap.size, 6, none⟩ = some (.bool false) ∧ z.cell? ⟨w.heap.size, 7, none⟩ = some (.string ⟨#[]⟩)) z }, p.1.cell? ⟨w.heap.size, 6, none⟩ = some (.bool false) := fun p => p.2.2.2.2.2.2.2.1
    have s7 : ∀ p : { z : World // (fun z : World => z.cell? ⟨w.heap.size, 0, none⟩ = some (.int .i64 rc) ∧ z.cell? ⟨w.heap.size, 1, none⟩ = some (.int .i64 rm) ∧ z.cell? ⟨w.heap.size, 2, none⟩ = some (.int .i64 k) ∧ z.cell? ⟨w.heap.size, 3, none⟩ = some (.int .i64 sh) ∧ z.cell? ⟨w.heap.size, 4, none⟩ = some (.int .i64 0) ∧ z.cell? ⟨w.heap.size, 5, none⟩ = some (.int .i64 0) ∧ z.cell? ⟨w.heap.size, 6, none⟩ = some (.bool false) ∧ z.cell? ⟨w.heap.size, 7, none⟩ = some (.string ⟨#[]⟩)) z }, p.1.cell? ⟨w.heap.size, 7, none⟩ = some (.string ⟨#[]⟩) := fun p => p.2.2.2.2.2.2.2.2
    have hne : Nonempty { z : World // (fun z : World => z.cell? ⟨w.heap.size, 0, none⟩ = some (.int .i64 rc) ∧ z.cell? ⟨w.heap.size, 1, none⟩ = some (.int .i64 rm) ∧ z.cell? ⟨w.heap.size, 2, none⟩ = some (.int .i64 k) ∧ z.cell? ⟨w.heap.size, 3, none⟩ = some (.int .i64 sh) ∧ z.cell? ⟨w.heap.size, 4, none⟩ = some (.int .i64 0) ∧ z.cell? ⟨w.heap.size, 5, none⟩ = some (.int .i64 0) ∧ z.cell? ⟨w.heap.size, 6, none⟩ = some (.bool false) ∧ z.cell? ⟨w.heap.size, 7, none⟩ = some (.string ⟨#[]⟩)) z } := ⟨⟨Y0, HSY0.out⟩⟩
    refine takeK 0 rfl (by kernel_rfl) (by kernel_rfl) (by kernel_rfl) rfl (fun v c a w h => h) HSY0.out (fun K hK => ?_)
    go_simp
    refine hK _ ?_
    clear hK K
    refine takeK 1 rfl (by kernel_rfl) (by kernel_rfl) (by kernel_rfl) rfl (fun v c a w h => h) HSY0.out (fun K hK => ?_)
    go_simp
    refine hK _ ?_
    clear hK K
    refine takeK 2 rfl (by kernel_rfl) (by kernel_rfl) (by kernel_rfl) rfl (fun v c a w h => h) HSY0.out (fun K hK => ?_)
    go_simp
    refine hK _ ?_
    clear hK K
    refine takeK 3 rfl (by kernel_rfl) (by kernel_rfl) (by kernel_rfl) rfl (fun v c a w h => h) HSY0.out (fun K hK => ?_)
    go_simp
    refine hK _ ?_
    clear hK K
    refine takeK 5 rfl (by kernel_rfl) (by kernel_rfl) (by kernel_rfl) rfl (fun v c a w h => h) HSY0.out (fun K hK => ?_)
    go_simp
    refine hK _ ?_
    clear hK K
    refine takeK 6 rfl (by kernel_rfl) (by kernel_rfl) (by kernel_rfl) rfl (fun v c a w h => h) HSY0.out (fun K hK => ?_)
    go_simp
    refine hK _ ?_
    clear hK K
    refine takeK 7 rfl (by kernel_rfl) (by kernel_rfl) (by kernel_rfl) rfl (fun v c a w h => h) HSY0.out (fun K hK => ?_)
    go_simp
    refine hK _ ?_
    clear hK K
    refine twoK 4 12 (by kernel_rfl) rfl rfl rfl rfl ?_ ?_
    · unfold Oper.wp
      go_simp
      refine (loadShelf l 2 s Y0 cs (blk_c ((belY0.block l hll).trans HL.out) (Below.refl _ _) h2l) ((HSH.out Y0 (fun q hq => belY0.block q (by omega))).2) hcs).mono ?_
      rintro e w' ⟨rfl, rfl⟩
      refine ⟨HSY0.out, ?_⟩
      refine twoK 8 12 (by kernel_rfl) rfl rfl rfl rfl ?_ ?_
      · unfold Oper.wp
        go_simp
        refine (HCALL.out Y0 belY0).mono ?_
        rintro e X ⟨ho, hit, hE, hres⟩
        have hsz_Y0 := belY0.size
        have HSX : Hid ((fun z : World => z.cell? ⟨w.heap.size, 0, none⟩ = some (.int .i64 rc) ∧ z.cell? ⟨w.heap.size, 1, none⟩ = some (.int .i64 rm) ∧ z.cell? ⟨w.heap.size, 2, none⟩ = some (.int .i64 k) ∧ z.cell? ⟨w.heap.size, 3, none⟩ = some (.int .i64 sh) ∧ z.cell? ⟨w.heap.size, 4, none⟩ = some (.int .i64 0) ∧ z.cell? ⟨w.heap.size, 5, none⟩ = some (.int .i64 0) ∧ z.cell? ⟨w.heap.size, 6, none⟩ = some (.bool false) ∧ z.cell? ⟨w.heap.size, 7, none⟩ = some (.string ⟨#[]⟩)) X) := ⟨ho.cell HSY0.out.1 (hTn _ (by simp only; omega)), ho.cell HSY0.out.2.1 (hTn _ (by simp only; omega)), ho.cell HSY0.out.2.2.1 (hTn _ (by simp only; omega)), ho.cell HSY0.out.2.2.2.1 (hTn _ (by simp only; omega)), ho.cell HSY0.out.2.2.2.2.1 (hTn _ (by simp only; omega)), ho.cell HSY0.out.2.2.2.2.2.1 (hTn _ (by simp only; omega)), ho.cell HSY0.out.2.2.2.2.2.2.1 (hTn _ (by simp only; omega)), ho.cell HSY0.out.2.2.2.2.2.2.2 (hTn _ (by simp only; omega))⟩
        obtain ⟨n0, ia, il, ic, c0, m0, g0, s1, ok, he⟩ := ResOk.form hres
        have HRES : Hid (ResOk Y0.heap.size X ns vs rc rm k sh across e hit) := hres
        have HEE : Hid (E hit X) := hE
        have HOX : Hid (OnlyS T Y0 X) := ho
        have HEE0 : Hid (e = .returned (.tuple #[.agg #[.int .i64 n0, .slice ia il ic, .int .i64 c0, .int .i64 m0, .int .i64 g0, .int .i64 s1, .int .i64 0, .int .i64 0, .bool false, .string ⟨#[]⟩, .int .i64 0, .int .u64 0], .bool ok])) := he
        have H1_X : Hid (X.heap[w.heap.size + 1]? = some (.cells #[.int .i64 0, .slice none 0 0, .int .i64 0, .int .i64 0, .int .i64 0, .int .i64 0, .int .i64 0, .int .i64 0, .bool false, .string ⟨#[]⟩] 36)) := ho.blk ((belY0b).trans H1.out) (hTn _ (by omega))
        clear hres hE ho
        subst he
        refine ⟨HSX.out, ?_⟩
        refine takeK 9 rfl (by kernel_rfl) (by kernel_rfl) (by kernel_rfl) rfl (fun v c a w h => h) HSX.out (fun K hK => ?_)
        go_simp
        refine hK _ ?_
        clear hK K
        refine takeK 10 rfl (by kernel_rfl) (by kernel_rfl) (by kernel_rfl) rfl (fun v c a w h => h) HSX.out (fun K hK => ?_)
        go_simp
        refine hK _ ?_
        clear hK K
        refine takeK 11 rfl (by kernel_rfl) (by kernel_rfl) (by kernel_rfl) rfl (fun v c a w h => h) HSX.out (fun K hK => ?_)
        go_simp
        refine hK _ ?_
        clear hK K
        have hlX := heap_lt H1_X.out
        refine oneK 12 (by kernel_rfl) rfl rfl ?_
        unfold Oper.wp
        go_simp
        have hb_X1 : Below X.heap.size X (X.alloc (.cells #[.int .i64 0, .slice none 0 0, .int .i64 0, .int .i64 0, .int .i64 0, .int .i64 0, .int .i64 0, .int .i64 0, .bool false, .string ⟨#[]⟩, .int .i64 0, .int .u64 0] 99)) := below_alloc1 _ _
        have HG_X1 : Hid ((X.alloc (.cells #[.int .i64 0, .slice none 0 0, .int .i64 0, .int .i64 0, .int .i64 0, .int .i64 0, .int .i64 0, .int .i64 0, .bool false, .string ⟨#[]⟩, .int .i64 0, .int .u64 0] 99)).heap[X.heap.size]? = some (.cells #[.int .i64 0, .slice none 0 0, .int .i64 0, .int .i64 0, .int .i64 0, .int .i64 0, .int .i64 0, .int .i64 0, .bool false, .string ⟨#[]⟩, .int .i64 0, .int .u64 0] 99)) := heap_alloc_new X _
        have HSX1 : Hid ((fun z : World => z.cell? ⟨w.heap.size, 0, none⟩ = some (.int .i64 rc) ∧ z.cell? ⟨w.heap.size, 1, none⟩ = some (.int .i64 rm) ∧ z.cell? ⟨w.heap.size, 2, none⟩ = some (.int .i64 k) ∧ z.cell? ⟨w.heap.size, 3, none⟩ = some (.int .i64 sh) ∧ z.cell? ⟨w.heap.size, 4, none⟩ = some (.int .i64 0) ∧ z.cell? ⟨w.heap.size, 5, none⟩ = some (.int .i64 0) ∧ z.cell? ⟨w.heap.size, 6, none⟩ = some (.bool false) ∧ z.cell? ⟨w.heap.size, 7, none⟩ = some (.string ⟨#[]⟩)) (X.alloc (.cells #[.int .i64 0, .slice none 0 0, .int .i64 0, .int .i64 0, .int .i64 0, .int .i64 0, .int .i64 0, .int .i64 0, .bool false, .string ⟨#[]⟩, .int .i64 0, .int .u64 0] 99))) := ⟨(hb_X1.cell (cell_lt HSX.out.1)).trans HSX.out.1, (hb_X1.cell (cell_lt HSX.out.2.1)).trans HSX.out.2.1, (hb_X1.cell (cell_lt HSX.out.2.2.1)).trans HSX.out.2.2.1, (hb_X1.cell (cell_lt HSX.out.2.2.2.1)).trans HSX.out.2.2.2.1, (hb_X1.cell (cell_lt HSX.out.2.2.2.2.1)).trans HSX.out.2.2.2.2.1, (hb_X1.cell (cell_lt HSX.out.2.2.2.2.2.1)).trans HSX.out.2.2.2.2.2.1, (hb_X1.cell (cell_lt HSX.out.2.2.2.2.2.2.1)).trans HSX.out.2.2.2.2.2.2.1, (hb_X1.cell (cell_lt HSX.out.2.2.2.2.2.2.2)).trans HSX.out.2.2.2.2.2.2.2⟩
        generalize hX1 : X.alloc (.cells #[.int .i64 0, .slice none 0 0, .int .i64 0, .int .i64 0, .int .i64 0, .int .i64 0, .int .i64 0, .int .i64 0, .bool false, .string ⟨#[]⟩, .int .i64 0, .int .u64 0] 99) = X1 at *
        clear hX1
        refine ⟨HSX1.out, ?_⟩
        have hgX : w.heap.size + 1 < X.heap.size := hlX
        refine oneK 13 (by kernel_rfl) rfl rfl ?_
        have HSZ : Hid ((fun z : World => z.cell? ⟨w.heap.size, 0, none⟩ = some (.int .i64 rc) ∧ z.cell? ⟨w.heap.size, 1, none⟩ = some (.int .i64 rm) ∧ z.cell? ⟨w.heap.size, 2, none⟩ = some (.int .i64 k) ∧ z.cell? ⟨w.heap.size, 3, none⟩ = some (.int .i64 sh) ∧ z.cell? ⟨w.heap.size, 4, none⟩ = some (.int .i64 0) ∧ z.cell? ⟨w.heap.size, 5, none⟩ = some (.int .i64 0) ∧ z.cell? ⟨w.heap.size, 6, none⟩ = some (.bool false) ∧ z.cell? ⟨w.heap.size, 7, none⟩ = some (.string ⟨#[]⟩)) (X1.setRow X.heap.size #[.int .i64 n0, .slice ia il ic, .int .i64 c0, .int .i64 m0, .int .i64 g0, .int .i64 s1, .int .i64 0, .int .i64 0, .bool false, .string ⟨#[]⟩, .int .i64 0, .int .u64 0])) := ⟨(World.cell?_of_block (setRow_other X1 X.heap.size w.heap.size #[.int .i64 n0, .slice ia il ic, .int .i64 c0, .int .i64 m0, .int .i64 g0, .int .i64 s1, .int .i64 0, .int .i64 0, .bool false, .string ⟨#[]⟩, .int .i64 0, .int .u64 0] (by omega))).trans HSX1.out.1, (World.cell?_of_block (setRow_other X1 X.heap.size w.heap.size #[.int .i64 n0, .slice ia il ic, .int .i64 c0, .int .i64 m0, .int .i64 g0, .int .i64 s1, .int .i64 0, .int .i64 0, .bool false, .string ⟨#[]⟩, .int .i64 0, .int .u64 0] (by omega))).trans HSX1.out.2.1, (World.cell?_of_block (setRow_other X1 X.heap.size w.heap.size #[.int .i64 n0, .slice ia il ic, .int .i64 c0, .int .i64 m0, .int .i64 g0, .int .i64 s1, .int .i64 0, .int .i64 0, .bool false, .string ⟨#[]⟩, .int .i64 0, .int .u64 0] (by omega))).trans HSX1.out.2.2.1, (World.cell?_of_block (setRow_other X1 X.heap.size w.heap.size #[.int .i64 n0, .slice ia il ic, .int .i64 c0, .int .i64 m0, .int .i64 g0, .int .i64 s1, .int .i64 0, .int .i64 0, .bool false, .string ⟨#[]⟩, .int .i64 0, .int .u64 0] (by omega))).trans HSX1.out.2.2.2.1, (World.cell?_of_block (setRow_other X1 X.heap.size w.heap.size #[.int .i64 n0, .slice ia il ic, .int .i64 c0, .int .i64 m0, .int .i64 g0, .int .i64 s1, .int .i64 0, .int .i64 0, .bool false, .string ⟨#[]⟩, .int .i64 0, .int .u64 0] (by omega))).trans HSX1.out.2.2.2.2.1, (World.cell?_of_block (setRow_other X1 X.heap.size w.heap.size #[.int .i64 n0, .slice ia il ic, .int .i64 c0, .int .i64 m0, .int .i64 g0, .int .i64 s1, .int .i64 0, .int .i64 0, .bool false, .string ⟨#[]⟩, .int .i64 0, .int .u64 0] (by omega))).trans HSX1.out.2.2.2.2.2.1, (World.cell?_of_block (setRow_other X1 X.heap.size w.heap.size #[.int .i64 n0, .slice ia il ic, .int .i64 c0, .int .i64 m0, .int .i64 g0, .int .i64 s1, .int .i64 0, .int .i64 0, .bool false, .string ⟨#[]⟩, .int .i64 0, .int .u64 0] (by omega))).trans HSX1.out.2.2.2.2.2.2.1, (World.cell?_of_block (setRow_other X1 X.heap.size w.heap.size #[.int .i64 n0, .slice ia il ic, .int .i64 c0, .int .i64 m0, .int .i64 g0, .int .i64 s1, .int .i64 0, .int .i64 0, .bool false, .string ⟨#[]⟩, .int .i64 0, .int .u64 0] (by omega))).trans HSX1.out.2.2.2.2.2.2.2⟩
        unfold Oper.wp
        rw [store_runs 99 _ _ rfl X.heap.size #[.int .i64 n0, .slice ia il ic, .int .i64 c0, .int .i64 m0, .int .i64 g0, .int .i64 s1, .int .i64 0, .int .i64 0, .bool false, .string ⟨#[]⟩, .int .i64 0, .int .u64 0] rfl rfl 99 _ HG_X1.out (by kernel_rfl) rfl (by simp [Value.oneCell'])]
        refine ⟨HSZ.out, ?_⟩
        refine takeK 14 rfl (by kernel_rfl) (by kernel_rfl) (by kernel_rfl) rfl (fun v c a w h => h) HSZ.out (fun K hK => ?_)
        go_simp
        refine hK _ ?_
        clear hK K
        refine wpAnyH_done (by kernel_rfl) ?_ _
        have ENDP : Hid (ZEnd E T w ns vs rc rm k sh across X.heap.size n0 ia il ic c0 m0 g0 s1 ok (X1.setRow X.heap.size #[.int .i64 n0, .slice ia il ic, .int .i64 c0, .int .i64 m0, .int .i64 g0, .int .i64 s1, .int .i64 0, .int .i64 0, .bool false, .string ⟨#[]⟩, .int .i64 0, .int .u64 0])) := zend_of hEs HRES.out HEE.out HOX.out belY0 (by omega) HEE0.out H1_X.out ⟨⟨hb_X1.os, hb_X1.tape, hb_X1.output, by simp [World.setRow]; exact hb_X1.size, fun q hq hne => (setRow_other X1 X.heap.size q _ (fun e => hne (by rw [e]; exact List.mem_singleton.2 rfl))).trans (hb_X1.block q hq)⟩, fun q hq hne => (setRow_other X1 X.heap.size q _ hne).trans (hb_X1.block q hq)⟩ (.inl (Array.getElem?_eq_none (Nat.le_refl _))) (setRow_heap X1 X.heap.size _ _ 99 _ HG_X1.out) (by omega) (by omega) (X1.setRow X.heap.size #[.int .i64 n0, .slice ia il ic, .int .i64 c0, .int .i64 m0, .int .i64 g0, .int .i64 s1, .int .i64 0, .int .i64 0, .bool false, .string ⟨#[]⟩, .int .i64 0, .int .u64 0]).heap.size (by have := hb_X1.size; simp [World.setRow]; omega) rfl
        show Exit.then _ _ _ _ _
        go_wp2_with fail
        go_meet
        first | exact ⟨X.heap.size, n0, ia, il, ic, c0, m0, g0, s1, ok, rfl, rfl, ENDP.out⟩ | ((repeat apply Exists.intro); exact ⟨⟨X.heap.size, n0, ia, il, ic, c0, m0, g0, s1, ok, rfl, rfl, ENDP.out⟩, rfl⟩)

      · unfold Oper.wp
        go_simp
        have hb_Y1 : Below Y0.heap.size Y0 (Y0.alloc (.cells #[.int .i64 0, .slice none 0 0, .int .i64 0, .int .i64 0, .int .i64 0, .int .i64 0, .int .i64 0, .int .i64 0, .bool false, .string ⟨#[]⟩, .int .i64 0, .int .u64 0] 99)) := below_alloc1 _ _
        have HG_Y1 : Hid ((Y0.alloc (.cells #[.int .i64 0, .slice none 0 0, .int .i64 0, .int .i64 0, .int .i64 0, .int .i64 0, .int .i64 0, .int .i64 0, .bool false, .string ⟨#[]⟩, .int .i64 0, .int .u64 0] 99)).heap[Y0.heap.size]? = some (.cells #[.int .i64 0, .slice none 0 0, .int .i64 0, .int .i64 0, .int .i64 0, .int .i64 0, .int .i64 0, .int .i64 0, .bool false, .string ⟨#[]⟩, .int .i64 0, .int .u64 0] 99)) := heap_alloc_new Y0 _
        have HSY1 : Hid ((fun z : World => z.cell? ⟨w.heap.size, 0, none⟩ = some (.int .i64 rc) ∧ z.cell? ⟨w.heap.size, 1, none⟩ = some (.int .i64 rm) ∧ z.cell? ⟨w.heap.size, 2, none⟩ = some (.int .i64 k) ∧ z.cell? ⟨w.heap.size, 3, none⟩ = some (.int .i64 sh) ∧ z.cell? ⟨w.heap.size, 4, none⟩ = some (.int .i64 0) ∧ z.cell? ⟨w.heap.size, 5, none⟩ = some (.int .i64 0) ∧ z.cell? ⟨w.heap.size, 6, none⟩ = some (.bool false) ∧ z.cell? ⟨w.heap.size, 7, none⟩ = some (.string ⟨#[]⟩)) (Y0.alloc (.cells #[.int .i64 0, .slice none 0 0, .int .i64 0, .int .i64 0, .int .i64 0, .int .i64 0, .int .i64 0, .int .i64 0, .bool false, .string ⟨#[]⟩, .int .i64 0, .int .u64 0] 99))) := ⟨(hb_Y1.cell (cell_lt HSY0.out.1)).trans HSY0.out.1, (hb_Y1.cell (cell_lt HSY0.out.2.1)).trans HSY0.out.2.1, (hb_Y1.cell (cell_lt HSY0.out.2.2.1)).trans HSY0.out.2.2.1, (hb_Y1.cell (cell_lt HSY0.out.2.2.2.1)).trans HSY0.out.2.2.2.1, (hb_Y1.cell (cell_lt HSY0.out.2.2.2.2.1)).trans HSY0.out.2.2.2.2.1, (hb_Y1.cell (cell_lt HSY0.out.2.2.2.2.2.1)).trans HSY0.out.2.2.2.2.2.1, (hb_Y1.cell (cell_lt HSY0.out.2.2.2.2.2.2.1)).trans HSY0.out.2.2.2.2.2.2.1, (hb_Y1.cell (cell_lt HSY0.out.2.2.2.2.2.2.2)).trans HSY0.out.2.2.2.2.2.2.2⟩
        generalize hY1 : Y0.alloc (.cells #[.int .i64 0, .slice none 0 0, .int .i64 0, .int .i64 0, .int .i64 0, .int .i64 0, .int .i64 0, .int .i64 0, .bool false, .string ⟨#[]⟩, .int .i64 0, .int .u64 0] 99) = Y1 at *
        clear hY1
        refine ⟨HSY1.out, ?_⟩
        have belY1 : Below w.heap.size w Y1 := belY0.trans (hb_Y1.mono belY0.size)
        have belY1b : Y1.heap[w.heap.size + 1]? = W.heap[w.heap.size + 1]? := (hb_Y1.block _ (by omega)).trans belY0b
        refine oneK 8 (by kernel_rfl) rfl rfl ?_
        unfold Oper.wp
        go_simp
        refine (HCALL.out Y1 belY1).mono ?_
        rintro e X ⟨ho, hit, hE, hres⟩
        have hsz_Y1 := belY1.size
        have HSX : Hid ((fun z : World => z.cell? ⟨w.heap.size, 0, none⟩ = some (.int .i64 rc) ∧ z.cell? ⟨w.heap.size, 1, none⟩ = some (.int .i64 rm) ∧ z.cell? ⟨w.heap.size, 2, none⟩ = some (.int .i64 k) ∧ z.cell? ⟨w.heap.size, 3, none⟩ = some (.int .i64 sh) ∧ z.cell? ⟨w.heap.size, 4, none⟩ = some (.int .i64 0) ∧ z.cell? ⟨w.heap.size, 5, none⟩ = some (.int .i64 0) ∧ z.cell? ⟨w.heap.size, 6, none⟩ = some (.bool false) ∧ z.cell? ⟨w.heap.size, 7, none⟩ = some (.string ⟨#[]⟩)) X) := ⟨ho.cell HSY1.out.1 (hTn _ (by simp only; omega)), ho.cell HSY1.out.2.1 (hTn _ (by simp only; omega)), ho.cell HSY1.out.2.2.1 (hTn _ (by simp only; omega)), ho.cell HSY1.out.2.2.2.1 (hTn _ (by simp only; omega)), ho.cell HSY1.out.2.2.2.2.1 (hTn _ (by simp only; omega)), ho.cell HSY1.out.2.2.2.2.2.1 (hTn _ (by simp only; omega)), ho.cell HSY1.out.2.2.2.2.2.2.1 (hTn _ (by simp only; omega)), ho.cell HSY1.out.2.2.2.2.2.2.2 (hTn _ (by simp only; omega))⟩
        obtain ⟨n0, ia, il, ic, c0, m0, g0, s1, ok, he⟩ := ResOk.form hres
        have HRES : Hid (ResOk Y1.heap.size X ns vs rc rm k sh across e hit) := hres
        have HEE : Hid (E hit X) := hE
        have HOX : Hid (OnlyS T Y1 X) := ho
        have HEE0 : Hid (e = .returned (.tuple #[.agg #[.int .i64 n0, .slice ia il ic, .int .i64 c0, .int .i64 m0, .int .i64 g0, .int .i64 s1, .int .i64 0, .int .i64 0, .bool false, .string ⟨#[]⟩, .int .i64 0, .int .u64 0], .bool ok])) := he
        have H1_X : Hid (X.heap[w.heap.size + 1]? = some (.cells #[.int .i64 0, .slice none 0 0, .int .i64 0, .int .i64 0, .int .i64 0, .int .i64 0, .int .i64 0, .int .i64 0, .bool false, .string ⟨#[]⟩] 36)) := ho.blk ((belY1b).trans H1.out) (hTn _ (by omega))
        clear hres hE ho
        subst he
        refine ⟨HSX.out, ?_⟩
        refine takeK 9 rfl (by kernel_rfl) (by kernel_rfl) (by kernel_rfl) rfl (fun v c a w h => h) HSX.out (fun K hK => ?_)
        go_simp
        refine hK _ ?_
        clear hK K
        refine takeK 10 rfl (by kernel_rfl) (by kernel_rfl) (by kernel_rfl) rfl (fun v c a w h => h) HSX.out (fun K hK => ?_)
        go_simp
        refine hK _ ?_
        clear hK K
        refine takeK 11 rfl (by kernel_rfl) (by kernel_rfl) (by kernel_rfl) rfl (fun v c a w h => h) HSX.out (fun K hK => ?_)
        go_simp
        refine hK _ ?_
        clear hK K
        have hlX := heap_lt H1_X.out
        have hsY1 := hb_Y1.size
        have HGX : Hid (X.heap[Y0.heap.size]? = some (.cells #[.int .i64 0, .slice none 0 0, .int .i64 0, .int .i64 0, .int .i64 0, .int .i64 0, .int .i64 0, .int .i64 0, .bool false, .string ⟨#[]⟩, .int .i64 0, .int .u64 0] 99)) := HOX.out.blk HG_Y1.out (hTn _ (by omega))
        refine oneK 13 (by kernel_rfl) rfl rfl ?_
        have HSZ : Hid ((fun z : World => z.cell? ⟨w.heap.size, 0, none⟩ = some (.int .i64 rc) ∧ z.cell? ⟨w.heap.size, 1, none⟩ = some (.int .i64 rm) ∧ z.cell? ⟨w.heap.size, 2, none⟩ = some (.int .i64 k) ∧ z.cell? ⟨w.heap.size, 3, none⟩ = some (.int .i64 sh) ∧ z.cell? ⟨w.heap.size, 4, none⟩ = some (.int .i64 0) ∧ z.cell? ⟨w.heap.size, 5, none⟩ = some (.int .i64 0) ∧ z.cell? ⟨w.heap.size, 6, none⟩ = some (.bool false) ∧ z.cell? ⟨w.heap.size, 7, none⟩ = some (.string ⟨#[]⟩)) (X.setRow Y0.heap.size #[.int .i64 n0, .slice ia il ic, .int .i64 c0, .int .i64 m0, .int .i64 g0, .int .i64 s1, .int .i64 0, .int .i64 0, .bool false, .string ⟨#[]⟩, .int .i64 0, .int .u64 0])) := ⟨(World.cell?_of_block (setRow_other X Y0.heap.size w.heap.size #[.int .i64 n0, .slice ia il ic, .int .i64 c0, .int .i64 m0, .int .i64 g0, .int .i64 s1, .int .i64 0, .int .i64 0, .bool false, .string ⟨#[]⟩, .int .i64 0, .int .u64 0] (by omega))).trans HSX.out.1, (World.cell?_of_block (setRow_other X Y0.heap.size w.heap.size #[.int .i64 n0, .slice ia il ic, .int .i64 c0, .int .i64 m0, .int .i64 g0, .int .i64 s1, .int .i64 0, .int .i64 0, .bool false, .string ⟨#[]⟩, .int .i64 0, .int .u64 0] (by omega))).trans HSX.out.2.1, (World.cell?_of_block (setRow_other X Y0.heap.size w.heap.size #[.int .i64 n0, .slice ia il ic, .int .i64 c0, .int .i64 m0, .int .i64 g0, .int .i64 s1, .int .i64 0, .int .i64 0, .bool false, .string ⟨#[]⟩, .int .i64 0, .int .u64 0] (by omega))).trans HSX.out.2.2.1, (World.cell?_of_block (setRow_other X Y0.heap.size w.heap.size #[.int .i64 n0, .slice ia il ic, .int .i64 c0, .int .i64 m0, .int .i64 g0, .int .i64 s1, .int .i64 0, .int .i64 0, .bool false, .string ⟨#[]⟩, .int .i64 0, .int .u64 0] (by omega))).trans HSX.out.2.2.2.1, (World.cell?_of_block (setRow_other X Y0.heap.size w.heap.size #[.int .i64 n0, .slice ia il ic, .int .i64 c0, .int .i64 m0, .int .i64 g0, .int .i64 s1, .int .i64 0, .int .i64 0, .bool false, .string ⟨#[]⟩, .int .i64 0, .int .u64 0] (by omega))).trans HSX.out.2.2.2.2.1, (World.cell?_of_block (setRow_other X Y0.heap.size w.heap.size #[.int .i64 n0, .slice ia il ic, .int .i64 c0, .int .i64 m0, .int .i64 g0, .int .i64 s1, .int .i64 0, .int .i64 0, .bool false, .string ⟨#[]⟩, .int .i64 0, .int .u64 0] (by omega))).trans HSX.out.2.2.2.2.2.1, (World.cell?_of_block (setRow_other X Y0.heap.size w.heap.size #[.int .i64 n0, .slice ia il ic, .int .i64 c0, .int .i64 m0, .int .i64 g0, .int .i64 s1, .int .i64 0, .int .i64 0, .bool false, .string ⟨#[]⟩, .int .i64 0, .int .u64 0] (by omega))).trans HSX.out.2.2.2.2.2.2.1, (World.cell?_of_block (setRow_other X Y0.heap.size w.heap.size #[.int .i64 n0, .slice ia il ic, .int .i64 c0, .int .i64 m0, .int .i64 g0, .int .i64 s1, .int .i64 0, .int .i64 0, .bool false, .string ⟨#[]⟩, .int .i64 0, .int .u64 0] (by omega))).trans HSX.out.2.2.2.2.2.2.2⟩
        unfold Oper.wp
        rw [store_runs 99 _ _ rfl Y0.heap.size #[.int .i64 n0, .slice ia il ic, .int .i64 c0, .int .i64 m0, .int .i64 g0, .int .i64 s1, .int .i64 0, .int .i64 0, .bool false, .string ⟨#[]⟩, .int .i64 0, .int .u64 0] rfl rfl 99 _ HGX.out (by kernel_rfl) rfl (by simp [Value.oneCell'])]
        refine ⟨HSZ.out, ?_⟩
        refine takeK 14 rfl (by kernel_rfl) (by kernel_rfl) (by kernel_rfl) rfl (fun v c a w h => h) HSZ.out (fun K hK => ?_)
        go_simp
        refine hK _ ?_
        clear hK K
        refine wpAnyH_done (by kernel_rfl) ?_ _
        have ENDP : Hid (ZEnd E T w ns vs rc rm k sh across Y0.heap.size n0 ia il ic c0 m0 g0 s1 ok (X.setRow Y0.heap.size #[.int .i64 n0, .slice ia il ic, .int .i64 c0, .int .i64 m0, .int .i64 g0, .int .i64 s1, .int .i64 0, .int .i64 0, .bool false, .string ⟨#[]⟩, .int .i64 0, .int .u64 0])) := zend_of hEs HRES.out HEE.out HOX.out belY1 (by omega) HEE0.out H1_X.out ⟨⟨rfl, rfl, rfl, by simp [World.setRow], fun q hq hne => setRow_other X Y0.heap.size q _ (fun e => hne (by rw [e]; exact List.mem_singleton.2 rfl))⟩, fun q hq hne => setRow_other X Y0.heap.size q _ hne⟩ (.inr ⟨_, _, HGX.out⟩) (setRow_heap X Y0.heap.size _ _ 99 _ HGX.out) (by omega) (by omega) (X.setRow Y0.heap.size #[.int .i64 n0, .slice ia il ic, .int .i64 c0, .int .i64 m0, .int .i64 g0, .int .i64 s1, .int .i64 0, .int .i64 0, .bool false, .string ⟨#[]⟩, .int .i64 0, .int .u64 0]).heap.size (by simp [World.setRow]) rfl
        show Exit.then _ _ _ _ _
        go_wp2_with fail
        go_meet
        first | exact ⟨Y0.heap.size, n0, ia, il, ic, c0, m0, g0, s1, ok, rfl, rfl, ENDP.out⟩ | ((repeat apply Exists.intro); exact ⟨⟨Y0.heap.size, n0, ia, il, ic, c0, m0, g0, s1, ok, rfl, rfl, ENDP.out⟩, rfl⟩)

    · unfold Oper.wp
      go_simp
      have hb_Y1 : Below Y0.heap.size Y0 (Y0.alloc (.cells #[.int .i64 0, .slice none 0 0, .int .i64 0, .int .i64 0, .int .i64 0, .int .i64 0, .int .i64 0, .int .i64 0, .bool false, .string ⟨#[]⟩, .int .i64 0, .int .u64 0] 99)) := below_alloc1 _ _
      have HG_Y1 : Hid ((Y0.alloc (.cells #[.int .i64 0, .slice none 0 0, .int .i64 0, .int .i64 0, .int .i64 0, .int .i64 0, .int .i64 0, .int .i64 0, .bool false, .string ⟨#[]⟩, .int .i64 0, .int .u64 0] 99)).heap[Y0.heap.size]? = some (.cells #[.int .i64 0, .slice none 0 0, .int .i64 0, .int .i64 0, .int .i64 0, .int .i64 0, .int .i64 0, .int .i64 0, .bool false, .string ⟨#[]⟩, .int .i64 0, .int .u64 0] 99)) := heap_alloc_new Y0 _
      have HSY1 : Hid ((fun z : World => z.cell? ⟨w.heap.size, 0, none⟩ = some (.int .i64 rc) ∧ z.cell? ⟨w.heap.size, 1, none⟩ = some (.int .i64 rm) ∧ z.cell? ⟨w.heap.size, 2, none⟩ = some (.int .i64 k) ∧ z.cell? ⟨w.heap.size, 3, none⟩ = some (.int .i64 sh) ∧ z.cell? ⟨w.heap.size, 4, none⟩ = some (.int .i64 0) ∧ z.cell? ⟨w.heap.size, 5, none⟩ = some (.int .i64 0) ∧ z.cell? ⟨w.heap.size, 6, none⟩ = some (.bool false) ∧ z.cell? ⟨w.heap.size, 7, none⟩ = some (.string ⟨#[]⟩)) (Y0.alloc (.cells #[.int .i64 0, .slice none 0 0, .int .i64 0, .int .i64 0, .int .i64 0, .int .i64 0, .int .i64 0, .int .i64 0, .bool false, .string ⟨#[]⟩, .int .i64 0, .int .u64 0] 99))) := ⟨(hb_Y1.cell (cell_lt HSY0.out.1)).trans HSY0.out.1, (hb_Y1.cell (cell_lt HSY0.out.2.1)).trans HSY0.out.2.1, (hb_Y1.cell (cell_lt HSY0.out.2.2.1)).trans HSY0.out.2.2.1, (hb_Y1.cell (cell_lt HSY0.out.2.2.2.1)).trans HSY0.out.2.2.2.1, (hb_Y1.cell (cell_lt HSY0.out.2.2.2.2.1)).trans HSY0.out.2.2.2.2.1, (hb_Y1.cell (cell_lt HSY0.out.2.2.2.2.2.1)).trans HSY0.out.2.2.2.2.2.1, (hb_Y1.cell (cell_lt HSY0.out.2.2.2.2.2.2.1)).trans HSY0.out.2.2.2.2.2.2.1, (hb_Y1.cell (cell_lt HSY0.out.2.2.2.2.2.2.2)).trans HSY0.out.2.2.2.2.2.2.2⟩
      generalize hY1 : Y0.alloc (.cells #[.int .i64 0, .slice none 0 0, .int .i64 0, .int .i64 0, .int .i64 0, .int .i64 0, .int .i64 0, .int .i64 0, .bool false, .string ⟨#[]⟩, .int .i64 0, .int .u64 0] 99) = Y1 at *
      clear hY1
      refine ⟨HSY1.out, ?_⟩
      have belY1 : Below w.heap.size w Y1 := belY0.trans (hb_Y1.mono belY0.size)
      have belY1b : Y1.heap[w.heap.size + 1]? = W.heap[w.heap.size + 1]? := (hb_Y1.block _ (by omega)).trans belY0b
      refine oneK 4 (by kernel_rfl) rfl rfl ?_
      unfold Oper.wp
      go_simp
      refine (loadShelf l 2 s Y1 cs (blk_c ((belY1.block l hll).trans HL.out) (Below.refl _ _) h2l) ((HSH.out Y1 (fun q hq => belY1.block q (by omega))).2) hcs).mono ?_
      rintro e w' ⟨rfl, rfl⟩
      refine ⟨HSY1.out, ?_⟩
      refine oneK 8 (by kernel_rfl) rfl rfl ?_
      unfold Oper.wp
      go_simp
      refine (HCALL.out Y1 belY1).mono ?_
      rintro e X ⟨ho, hit, hE, hres⟩
      have hsz_Y1 := belY1.size
      have HSX : Hid ((fun z : World => z.cell? ⟨w.heap.size, 0, none⟩ = some (.int .i64 rc) ∧ z.cell? ⟨w.heap.size, 1, none⟩ = some (.int .i64 rm) ∧ z.cell? ⟨w.heap.size, 2, none⟩ = some (.int .i64 k) ∧ z.cell? ⟨w.heap.size, 3, none⟩ = some (.int .i64 sh) ∧ z.cell? ⟨w.heap.size, 4, none⟩ = some (.int .i64 0) ∧ z.cell? ⟨w.heap.size, 5, none⟩ = some (.int .i64 0) ∧ z.cell? ⟨w.heap.size, 6, none⟩ = some (.bool false) ∧ z.cell? ⟨w.heap.size, 7, none⟩ = some (.string ⟨#[]⟩)) X) := ⟨ho.cell HSY1.out.1 (hTn _ (by simp only; omega)), ho.cell HSY1.out.2.1 (hTn _ (by simp only; omega)), ho.cell HSY1.out.2.2.1 (hTn _ (by simp only; omega)), ho.cell HSY1.out.2.2.2.1 (hTn _ (by simp only; omega)), ho.cell HSY1.out.2.2.2.2.1 (hTn _ (by simp only; omega)), ho.cell HSY1.out.2.2.2.2.2.1 (hTn _ (by simp only; omega)), ho.cell HSY1.out.2.2.2.2.2.2.1 (hTn _ (by simp only; omega)), ho.cell HSY1.out.2.2.2.2.2.2.2 (hTn _ (by simp only; omega))⟩
      obtain ⟨n0, ia, il, ic, c0, m0, g0, s1, ok, he⟩ := ResOk.form hres
      have HRES : Hid (ResOk Y1.heap.size X ns vs rc rm k sh across e hit) := hres
      have HEE : Hid (E hit X) := hE
      have HOX : Hid (OnlyS T Y1 X) := ho
      have HEE0 : Hid (e = .returned (.tuple #[.agg #[.int .i64 n0, .slice ia il ic, .int .i64 c0, .int .i64 m0, .int .i64 g0, .int .i64 s1, .int .i64 0, .int .i64 0, .bool false, .string ⟨#[]⟩, .int .i64 0, .int .u64 0], .bool ok])) := he
      have H1_X : Hid (X.heap[w.heap.size + 1]? = some (.cells #[.int .i64 0, .slice none 0 0, .int .i64 0, .int .i64 0, .int .i64 0, .int .i64 0, .int .i64 0, .int .i64 0, .bool false, .string ⟨#[]⟩] 36)) := ho.blk ((belY1b).trans H1.out) (hTn _ (by omega))
      clear hres hE ho
      subst he
      refine ⟨HSX.out, ?_⟩
      refine takeK 9 rfl (by kernel_rfl) (by kernel_rfl) (by kernel_rfl) rfl (fun v c a w h => h) HSX.out (fun K hK => ?_)
      go_simp
      refine hK _ ?_
      clear hK K
      refine takeK 10 rfl (by kernel_rfl) (by kernel_rfl) (by kernel_rfl) rfl (fun v c a w h => h) HSX.out (fun K hK => ?_)
      go_simp
      refine hK _ ?_
      clear hK K
      refine takeK 11 rfl (by kernel_rfl) (by kernel_rfl) (by kernel_rfl) rfl (fun v c a w h => h) HSX.out (fun K hK => ?_)
      go_simp
      refine hK _ ?_
      clear hK K
      have hlX := heap_lt H1_X.out
      have hsY1 := hb_Y1.size
      have HGX : Hid (X.heap[Y0.heap.size]? = some (.cells #[.int .i64 0, .slice none 0 0, .int .i64 0, .int .i64 0, .int .i64 0, .int .i64 0, .int .i64 0, .int .i64 0, .bool false, .string ⟨#[]⟩, .int .i64 0, .int .u64 0] 99)) := HOX.out.blk HG_Y1.out (hTn _ (by omega))
      refine oneK 13 (by kernel_rfl) rfl rfl ?_
      have HSZ : Hid ((fun z : World => z.cell? ⟨w.heap.size, 0, none⟩ = some (.int .i64 rc) ∧ z.cell? ⟨w.heap.size, 1, none⟩ = some (.int .i64 rm) ∧ z.cell? ⟨w.heap.size, 2, none⟩ = some (.int .i64 k) ∧ z.cell? ⟨w.heap.size, 3, none⟩ = some (.int .i64 sh) ∧ z.cell? ⟨w.heap.size, 4, none⟩ = some (.int .i64 0) ∧ z.cell? ⟨w.heap.size, 5, none⟩ = some (.int .i64 0) ∧ z.cell? ⟨w.heap.size, 6, none⟩ = some (.bool false) ∧ z.cell? ⟨w.heap.size, 7, none⟩ = some (.string ⟨#[]⟩)) (X.setRow Y0.heap.size #[.int .i64 n0, .slice ia il ic, .int .i64 c0, .int .i64 m0, .int .i64 g0, .int .i64 s1, .int .i64 0, .int .i64 0, .bool false, .string ⟨#[]⟩, .int .i64 0, .int .u64 0])) := ⟨(World.cell?_of_block (setRow_other X Y0.heap.size w.heap.size #[.int .i64 n0, .slice ia il ic, .int .i64 c0, .int .i64 m0, .int .i64 g0, .int .i64 s1, .int .i64 0, .int .i64 0, .bool false, .string ⟨#[]⟩, .int .i64 0, .int .u64 0] (by omega))).trans HSX.out.1, (World.cell?_of_block (setRow_other X Y0.heap.size w.heap.size #[.int .i64 n0, .slice ia il ic, .int .i64 c0, .int .i64 m0, .int .i64 g0, .int .i64 s1, .int .i64 0, .int .i64 0, .bool false, .string ⟨#[]⟩, .int .i64 0, .int .u64 0] (by omega))).trans HSX.out.2.1, (World.cell?_of_block (setRow_other X Y0.heap.size w.heap.size #[.int .i64 n0, .slice ia il ic, .int .i64 c0, .int .i64 m0, .int .i64 g0, .int .i64 s1, .int .i64 0, .int .i64 0, .bool false, .string ⟨#[]⟩, .int .i64 0, .int .u64 0] (by omega))).trans HSX.out.2.2.1, (World.cell?_of_block (setRow_other X Y0.heap.size w.heap.size #[.int .i64 n0, .slice ia il ic, .int .i64 c0, .int .i64 m0, .int .i64 g0, .int .i64 s1, .int .i64 0, .int .i64 0, .bool false, .string ⟨#[]⟩, .int .i64 0, .int .u64 0] (by omega))).trans HSX.out.2.2.2.1, (World.cell?_of_block (setRow_other X Y0.heap.size w.heap.size #[.int .i64 n0, .slice ia il ic, .int .i64 c0, .int .i64 m0, .int .i64 g0, .int .i64 s1, .int .i64 0, .int .i64 0, .bool false, .string ⟨#[]⟩, .int .i64 0, .int .u64 0] (by omega))).trans HSX.out.2.2.2.2.1, (World.cell?_of_block (setRow_other X Y0.heap.size w.heap.size #[.int .i64 n0, .slice ia il ic, .int .i64 c0, .int .i64 m0, .int .i64 g0, .int .i64 s1, .int .i64 0, .int .i64 0, .bool false, .string ⟨#[]⟩, .int .i64 0, .int .u64 0] (by omega))).trans HSX.out.2.2.2.2.2.1, (World.cell?_of_block (setRow_other X Y0.heap.size w.heap.size #[.int .i64 n0, .slice ia il ic, .int .i64 c0, .int .i64 m0, .int .i64 g0, .int .i64 s1, .int .i64 0, .int .i64 0, .bool false, .string ⟨#[]⟩, .int .i64 0, .int .u64 0] (by omega))).trans HSX.out.2.2.2.2.2.2.1, (World.cell?_of_block (setRow_other X Y0.heap.size w.heap.size #[.int .i64 n0, .slice ia il ic, .int .i64 c0, .int .i64 m0, .int .i64 g0, .int .i64 s1, .int .i64 0, .int .i64 0, .bool false, .string ⟨#[]⟩, .int .i64 0, .int .u64 0] (by omega))).trans HSX.out.2.2.2.2.2.2.2⟩
      unfold Oper.wp
      rw [store_runs 99 _ _ rfl Y0.heap.size #[.int .i64 n0, .slice ia il ic, .int .i64 c0, .int .i64 m0, .int .i64 g0, .int .i64 s1, .int .i64 0, .int .i64 0, .bool false, .string ⟨#[]⟩, .int .i64 0, .int .u64 0] rfl rfl 99 _ HGX.out (by kernel_rfl) rfl (by simp [Value.oneCell'])]
      refine ⟨HSZ.out, ?_⟩
      refine takeK 14 rfl (by kernel_rfl) (by kernel_rfl) (by kernel_rfl) rfl (fun v c a w h => h) HSZ.out (fun K hK => ?_)
      go_simp
      refine hK _ ?_
      clear hK K
      refine wpAnyH_done (by kernel_rfl) ?_ _
      have ENDP : Hid (ZEnd E T w ns vs rc rm k sh across Y0.heap.size n0 ia il ic c0 m0 g0 s1 ok (X.setRow Y0.heap.size #[.int .i64 n0, .slice ia il ic, .int .i64 c0, .int .i64 m0, .int .i64 g0, .int .i64 s1, .int .i64 0, .int .i64 0, .bool false, .string ⟨#[]⟩, .int .i64 0, .int .u64 0])) := zend_of hEs HRES.out HEE.out HOX.out belY1 (by omega) HEE0.out H1_X.out ⟨⟨rfl, rfl, rfl, by simp [World.setRow], fun q hq hne => setRow_other X Y0.heap.size q _ (fun e => hne (by rw [e]; exact List.mem_singleton.2 rfl))⟩, fun q hq hne => setRow_other X Y0.heap.size q _ hne⟩ (.inr ⟨_, _, HGX.out⟩) (setRow_heap X Y0.heap.size _ _ 99 _ HGX.out) (by omega) (by omega) (X.setRow Y0.heap.size #[.int .i64 n0, .slice ia il ic, .int .i64 c0, .int .i64 m0, .int .i64 g0, .int .i64 s1, .int .i64 0, .int .i64 0, .bool false, .string ⟨#[]⟩, .int .i64 0, .int .u64 0]).heap.size (by simp [World.setRow]) rfl
      show Exit.then _ _ _ _ _
      go_wp2_with fail
      go_meet
      first | exact ⟨Y0.heap.size, n0, ia, il, ic, c0, m0, g0, s1, ok, rfl, rfl, ENDP.out⟩ | ((repeat apply Exists.intro); exact ⟨⟨Y0.heap.size, n0, ia, il, ic, c0, m0, g0, s1, ok, rfl, rfl, ENDP.out⟩, rfl⟩)

  case rest =>
    obtain ⟨g9, n0, ia, il, ic, c0, m0, g0, s1, ok, rfl, rfl, HEND⟩ := hcut
    obtain ⟨hd, hz, h9n, hO, hit, e0, hE, he0, hres⟩ := HEND.out
    have HZ : Hid _ := hz
    have HOW : Hid _ := hO
    have HEw : Hid (E hit wc) := hE
    have HRES : Hid (ResOk w.heap.size wc ns vs rc rm k sh across e0 hit) := hres
    have HE0 : Hid _ := he0
    have d0 := blk_c hd (Below.refl _ _) (i := 0) rfl
    have d1 := blk_c hd (Below.refl _ _) (i := 1) rfl
    have d2 := blk_c hd (Below.refl _ _) (i := 2) rfl
    have d3 := blk_c hd (Below.refl _ _) (i := 3) rfl
    have d4 := blk_c hd (Below.refl _ _) (i := 4) rfl
    have d5 := blk_c hd (Below.refl _ _) (i := 5) rfl
    have d6 := blk_c hd (Below.refl _ _) (i := 6) rfl
    have d7 := blk_c hd (Below.refl _ _) (i := 7) rfl
    have d8 := blk_c hd (Below.refl _ _) (i := 8) rfl
    have d9 := blk_c hd (Below.refl _ _) (i := 9) rfl
    have d10 := blk_c hd (Below.refl _ _) (i := 10) rfl
    have d11 := blk_c hd (Below.refl _ _) (i := 11) rfl
    have z0 := blk_c hz (Below.refl _ _) (i := 0) rfl
    have y0 := blk_f hz (Below.refl _ _) 0
    have z1 := blk_c hz (Below.refl _ _) (i := 1) rfl
    have y1 := blk_f hz (Below.refl _ _) 1
    have z2 := blk_c hz (Below.refl _ _) (i := 2) rfl
    have y2 := blk_f hz (Below.refl _ _) 2
    have z3 := blk_c hz (Below.refl _ _) (i := 3) rfl
    have y3 := blk_f hz (Below.refl _ _) 3
    have z4 := blk_c hz (Below.refl _ _) (i := 4) rfl
    have y4 := blk_f hz (Below.refl _ _) 4
    have z5 := blk_c hz (Below.refl _ _) (i := 5) rfl
    have y5 := blk_f hz (Below.refl _ _) 5
    have z6 := blk_c hz (Below.refl _ _) (i := 6) rfl
    have y6 := blk_f hz (Below.refl _ _) 6
    have z7 := blk_c hz (Below.refl _ _) (i := 7) rfl
    have y7 := blk_f hz (Below.refl _ _) 7
    have z8 := blk_c hz (Below.refl _ _) (i := 8) rfl
    have y8 := blk_f hz (Below.refl _ _) 8
    have z9 := blk_c hz (Below.refl _ _) (i := 9) rfl
    have y9 := blk_f hz (Below.refl _ _) 9
    clear hd hz hO hE hres he0
    go_upto_region 2 with fail
    go_region
    go_wp2_with fail
    have hlz := heap_lt HZ.out
    refine bodyPost_ret (v := .tuple #[grantVN n0 (.slice ia il ic) c0 m0 g0 s1, .int .i64 0, .bool ok]) (by simp [results, Tryz.results17, go_sem, grantVN, z0, z1, z2, z3, z4, z5, z6, z7, z8, z9]) rfl ⟨?_, ⟨hit, ?_⟩, zres_of HRES.out HE0.out (fun v n xs h => ?_)⟩
    · refine onlyS_drew ?_
      iterate 10 refine OnlyS.setCell ?_ (.inr (by simp only; omega)) _
      exact HOW.out
    · exact hEg hit wc HEw.out _ (fun q hq hne => set10_other wc (w.heap.size + 1) q hne _ _ _ _ _ _ _ _ _ _) HZ.out
    · have hne : ∀ q, v.ownBlock = some q → q ≠ w.heap.size + 1 := owns_ne h HZ.out (by decide)
      refine owns_drew ?_
      iterate 10 refine owns_setCell ?_ hne
      exact h

end Go.Proofs.Qxb6612460aGreatFmt
