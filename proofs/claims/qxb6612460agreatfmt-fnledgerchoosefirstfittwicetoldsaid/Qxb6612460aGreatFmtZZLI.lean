import Derived.Test.Qxb6612460aGreatFmtZZL
import Derived.Test.Qxb6612460aGreatFmtNewM
import Derived.Test.Qxb6612460aGreatFmtLawNG
namespace Go.Proofs.Qxb6612460aGreatFmt
open Go.RowKit Go.Sort Go.MuLone
attribute [local go_sem] Option.isNone_none Option.isNone_some
attribute [local go_sem] sUpon mUpon
attribute [local go_sem] Mix.isVal Mix.makes

theorem LedKept.keep {X Z : World} {l s m : Nat} {ns : List (Int × Int × Nat)} {vs : List Nat} {rc rm : Int} {k : Nat} {sh : Int} {across : Bool} {f kg : Nat} {hit : Option Nat} {g9 : Nat} (h : LedKept X l s m ns vs rc rm k sh across f kg hit) (hk : ∀ q, q < X.heap.size → q ≠ g9 → Z.heap[q]? = X.heap[q]?)
    (h9 : X.heap[g9]? = none ∨ ∃ cs t fz, X.heap[g9]? = some (.cells cs t fz) ∧ (t = 99 ∨ t = 36)) : LedKept Z l s m ns vs rc rm k sh across f kg hit := by
  obtain ⟨mp, el, K, ⟨q1, q2, q3, q4⟩, q5, q6, q7, q8, q9, q10⟩ := h
  have go : ∀ q o, X.heap[q]? = some o → (∀ cs t fz, o = Obj.cells cs t fz → t ≠ 99 ∧ t ≠ 36) → Z.heap[q]? = some o := fun q o ho hne => by
    refine (hk q (heap_lt ho) (fun e => ?_)).trans ho
    subst e
    rcases h9 with h9 | ⟨cs, t, fz, h9, ht⟩
    · rw [h9] at ho; cases ho
    · rw [h9] at ho
      cases ho
      have := hne cs t fz rfl
      rcases ht with rfl | rfl
      · exact absurd rfl this.1
      · exact absurd rfl this.2
  refine ⟨mp, el, K, ⟨go _ _ q1 (fun cs t fz e => by cases e; decide), go _ _ q2 (fun cs t fz e => by cases e), go _ _ q3 (fun cs t fz e => by cases e; decide), go _ _ q4 (fun cs t fz e => by cases e; decide)⟩, ownsRow_same q5 (fun q hq => ?_), q6, q7, q8, q9, q10⟩
  obtain ⟨-, h | ⟨g', cap', cur, r1, -, r3, -⟩⟩ := q5
  · cases h.1
  · cases r1
    cases hq
    exact (go _ _ r3 (fun cs t fz e => by cases e; decide)).trans r3.symm
/-- The first decision leaves the ledger with its findings. -/
theorem zzLF (l s m : Nat) (cs : Array Value) (na : Option Addr) (nc : Nat) (ns : List (Int × Int × Nat)) (vs : List Nat) (rc rm : Int) (k : Nat) (sh : Int) (across : Bool) (w : World)
    (hl : w.heap[l]? = some (.cells #[.int .i32 0, .int .u32 0, .pointer (some ⟨s, 0, none⟩), .int .i32 0, .int .u32 0, .map none, .pointer none, .pointer none, .pointer none, .nilIface, .int .i64 0] 96 (0, 0)))
    (hSH : ∀ Z : World, (∀ q, q < l → Z.heap[q]? = w.heap[q]?) → ShelfAt Z s m ns vs ∧ Z.heap[s]? = some (.cells cs 58 (0, 0))) (hcs : cs.size = 4) (h0 : cs[0]? = some (.slice na ns.length nc)) (hsl : s < l) (h2 : 2 ≤ ns.length) (h4 : ns.length ≤ 4096) (hvl : vs.length ≤ 65536) (hr : ReqOk k sh) :
    Calls Tryz.prog 17 #[.pointer (some ⟨l, 0, none⟩), reqV rc rm k sh, .bool across] w fun e w' => OnlyS [l] w w' ∧ (∃ hit, ∃ f kg, w.heap.size ≤ f ∧ w.heap.size ≤ kg ∧ HitOk ns vs rc rm k hit ∧ LedKept w' l s m ns vs rc rm k sh across f kg hit) ∧ ZRes w.heap.size w' ns vs rc rm k sh across e := by
  have hll := heap_lt hl
  refine zzLgen (fun hit X => ∃ f kg, w.heap.size ≤ f ∧ w.heap.size ≤ kg ∧ HitOk ns vs rc rm k hit ∧ LedKept X l s m ns vs rc rm k sh across f kg hit) [l] l s m cs _ ns vs rc rm k sh across w hl rfl hSH hcs (fun q hq => by simp only [List.mem_singleton] at hq; omega) ?_ ?_ ?_
  · rintro hit X Z g9 hk h9 ⟨f, kg, e1, e2, e3, e4⟩
    refine ⟨f, kg, e1, e2, e3, e4.keep hk ?_⟩
    rcases h9 with h | ⟨cs, fz, h⟩
    · exact .inl h
    · exact .inr ⟨cs, 99, fz, h, .inl rfl⟩
  · rintro hit X ⟨f, kg, e1, e2, e3, e4⟩ Z hk h9
    exact ⟨f, kg, e1, e2, e3, e4.keep hk (.inr ⟨_, 36, _, h9, .inr rfl⟩)⟩
  · intro Y hb
    refine (ledF l s m cs na nc ns vs rc rm k sh across Y ((hb.block l hll).trans hl) (fun Z hZ => hSH Z (fun q hq => (hZ q hq).trans (hb.block q (by omega)))) h0 hsl h2 h4 hvl hr).mono ?_
    rintro e X ⟨ho, f, kg, hit, e1, e2, e3, e4⟩
    have := hb.size
    exact ⟨ho, hit, ⟨f, kg, by omega, by omega, e4.hit, e3⟩, e4⟩
/-- And again. -/
theorem zzLA (l s m f kg : Nat) (hit0 : Option Nat) (cs : Array Value) (na : Option Addr) (nc : Nat) (ns : List (Int × Int × Nat)) (vs : List Nat) (rc rm : Int) (k : Nat) (sh : Int) (across : Bool) (w : World) (hLK : LedKept w l s m ns vs rc rm k sh across f kg hit0) (hho : HitOk ns vs rc rm k hit0)
    (hSH : ∀ Z : World, (∀ q, q < l → Z.heap[q]? = w.heap[q]?) → ShelfAt Z s m ns vs ∧ Z.heap[s]? = some (.cells cs 58 (0, 0))) (hcs : cs.size = 4) (h0 : cs[0]? = some (.slice na ns.length nc)) (hsl : s < l) (h2 : 2 ≤ ns.length) (hvl : vs.length ≤ 65536) (hr : ReqOk k sh) :
    Calls Tryz.prog 17 #[.pointer (some ⟨l, 0, none⟩), reqV rc rm k sh, .bool across] w fun e w' => OnlyS [l, f, kg] w w' ∧ (∃ _hit : Option Nat, True) ∧ ZRes w.heap.size w' ns vs rc rm k sh across e := by
  obtain ⟨mp, el, K, hKp, hKR, hKA, a1, a2, a3, a4⟩ := id hLK
  have hll := heap_lt hKp.led
  have hlf := heap_lt hKp.find
  have hlk := ownsRow_lt hKR kg rfl
  refine zzLgen (fun _ _ => True) [l, f, kg] l s m cs _ ns vs rc rm k sh across w hKp.led rfl hSH hcs (fun q hq => by simp only [List.mem_cons, List.not_mem_nil, or_false] at hq; rcases hq with rfl | rfl | rfl <;> omega) (fun _ _ _ _ _ _ _ => trivial) (fun _ _ _ _ _ _ => trivial) ?_
  intro Y hb
  refine (ledA l s m f kg hit0 cs na nc ns vs rc rm k sh across Y ⟨mp, el, K, ⟨(hb.block _ hll).trans hKp.led, (hb.block _ (heap_lt hKp.map)).trans hKp.map, (hb.block _ (heap_lt hKp.elem)).trans hKp.elem, (hb.block _ hlf).trans hKp.find⟩, owns_below hKR hb, hKA, a1, a2, a3, a4⟩ hho (fun Z hZ => hSH Z (fun q hq => (hZ q hq).trans (hb.block q (by omega)))) h0 hsl h2 hvl hr).mono ?_
  rintro e X ⟨ho, hit, e4⟩
  exact ⟨ho, hit, trivial, e4⟩
/-- A ledger of fewer than two nodes. -/
theorem zzL1 (l s m : Nat) (cs : Array Value) (na : Option Addr) (nc : Nat) (ns : List (Int × Int × Nat)) (vs : List Nat) (rc rm : Int) (k : Nat) (sh : Int) (across : Bool) (lc : Array Value) (w : World) (hl : w.heap[l]? = some (.cells lc 96 (0, 0))) (h2l : lc[2]? = some (.pointer (some ⟨s, 0, none⟩)))
    (hSH : ∀ Z : World, (∀ q, q < l → Z.heap[q]? = w.heap[q]?) → ShelfAt Z s m ns vs ∧ Z.heap[s]? = some (.cells cs 58 (0, 0))) (hcs : cs.size = 4) (h0 : cs[0]? = some (.slice na ns.length nc)) (h2 : ns.length < 2) (hvl : vs.length ≤ 65536) (hr : ReqOk k sh) :
    Calls Tryz.prog 17 #[.pointer (some ⟨l, 0, none⟩), reqV rc rm k sh, .bool across] w fun e w' => OnlyS [] w w' ∧ (∃ _hit : Option Nat, True) ∧ ZRes w.heap.size w' ns vs rc rm k sh across e := by
  have hll := heap_lt hl
  refine zzLgen (fun _ _ => True) [] l s m cs _ ns vs rc rm k sh across w hl h2l hSH hcs (fun q hq => by simp at hq) (fun _ _ _ _ _ _ _ => trivial) (fun _ _ _ _ _ _ => trivial) ?_
  intro Y hb
  refine (led1 l s m cs na nc ns vs rc rm k sh across lc Y ((hb.block l hll).trans hl) (fun Z hZ => hSH Z (fun q hq => (hZ q hq).trans (hb.block q (by omega)))) h0 h2 hvl hr).mono ?_
  rintro e X ⟨ho, hit, e4⟩
  exact ⟨OnlyS.of ho, hit, trivial, e4⟩

end Go.Proofs.Qxb6612460aGreatFmt
