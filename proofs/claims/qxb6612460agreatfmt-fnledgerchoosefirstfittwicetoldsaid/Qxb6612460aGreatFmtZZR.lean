/-
  The two decisions: the first leaves the ledger ready for the second.
-/
import Derived.Test.Qxb6612460aGreatFmtZZLI
namespace Go.Proofs.Qxb6612460aGreatFmt
open Go.RowKit Go.Sort Go.MuLone
attribute [local go_sem] Option.isNone_none Option.isNone_some
attribute [local go_sem] sUpon mUpon
attribute [local go_sem] Mix.isVal Mix.makes

set_option maxRecDepth 100000 in
theorem zzBytesT (a1 a2 a3 : Option Addr) (c1 c2 c3 n1 n2 n3 : Nat) (rc rm rg rs : Int) (across : Bool) (w : World) (h1 : n1 ≤ 9223372036854775807) (h2 : n2 ≤ 9223372036854775807) (h3 : n3 ≤ 9223372036854775807) :
    Calls Tryz.prog 16 #[.slice a1 n1 c1, .slice a2 n2 c2, .slice a3 n3 c3, .int .i64 rc, .int .i64 rm, .int .i64 rg, .int .i64 rs, .bool across] w (AnyBool w) := by
  have lem : ∀ (m : Nat), 1048576 < m → decide ((1048576 : Int) < ((m : Nat) : Int)) = true := fun m h => by simp; omega
  have lem' : ∀ (m : Nat), ¬ 1048576 < m → decide ((1048576 : Int) < ((m : Nat) : Int)) = false := fun m h => by simp; omega
  by_cases b1 : 1048576 < n1
  · have d1 := lem n1 b1
    go_enter Tryz.func16, Tryz.ntmps16
    go_wp2_with fail
    go_ret
    exact ⟨⟨_, rfl⟩, rfl⟩
  have d1 := lem' n1 b1
  by_cases b2 : 1048576 < n2
  · have d2 := lem n2 b2
    go_enter Tryz.func16, Tryz.ntmps16
    go_wp2_with fail
    go_ret
    exact ⟨⟨_, rfl⟩, rfl⟩
  have d2 := lem' n2 b2
  by_cases b3 : 1048576 < n1 + n2
  · have d3 : decide (1048576 < n1 + n2) = true := by simp [b3]
    have d3' : decide ((1048576 : Int) < (n1 : Int) + (n2 : Int)) = true := by simp; omega
    go_enter Tryz.func16, Tryz.ntmps16
    go_wp2_with fail
    go_ret
    exact ⟨⟨_, rfl⟩, rfl⟩
  have d3 : decide (1048576 < n1 + n2) = false := by simp; omega
  have d3' : decide ((1048576 : Int) < (n1 : Int) + (n2 : Int)) = false := by simp; omega
  by_cases b4 : 1048576 < n3
  · have d4 := lem n3 b4
    go_enter Tryz.func16, Tryz.ntmps16
    go_wp2_with fail
    go_ret
    exact ⟨⟨_, rfl⟩, rfl⟩
  have d4 := lem' n3 b4
  by_cases b5 : 1048576 < n1 + n2 + n3
  · have d5 : decide (1048576 < n1 + n2 + n3) = true := by simp [b5]
    have d5' : decide ((1048576 : Int) < (n1 : Int) + (n2 : Int) + (n3 : Int)) = true := by simp; omega
    go_enter Tryz.func16, Tryz.ntmps16
    go_wp2_with fail
    go_ret
    exact ⟨⟨_, rfl⟩, rfl⟩
  have d5 : decide (1048576 < n1 + n2 + n3) = false := by simp; omega
  have d5' : decide ((1048576 : Int) < (n1 : Int) + (n2 : Int) + (n3 : Int)) = false := by simp; omega
  go_enter Tryz.func16, Tryz.ntmps16
  go_wp2_with fail
  go_ret
  exact ⟨⟨_, rfl⟩, rfl⟩

/-- A decision turns the ledger's own blocks only. -/
def TouchS (B : Nat) (Y X : World) : Prop := Below B Y X ∧ Y.heap.size ≤ X.heap.size ∧ ∀ (q : Nat) (cs : Array Value) (t : TypeId), Y.heap[q]? = some (Obj.cells cs t (0, 0)) → t = 3 ∨ t = 34 ∨ t = 36 → X.heap[q]? = some (.cells cs t (0, 0))
theorem TouchS.of {B : Nat} {Y X : World} {T : List Nat} (h : OnlyS T Y X) (hB : B ≤ Y.heap.size) (hT : ∀ q ∈ T, B ≤ q) (hN : ∀ q ∈ T, ∀ (cs : Array Value) (t : TypeId), Y.heap[q]? = some (Obj.cells cs t (0, 0)) → t ≠ 3 ∧ t ≠ 34 ∧ t ≠ 36) : TouchS B Y X := by
  refine ⟨h.below hB hT, h.size, fun q cs t hq ht => h.blk hq (fun hm => ?_)⟩
  obtain ⟨h1, h2, h3⟩ := hN q hm cs t hq
  rcases ht with e | e | e
  · exact h1 e
  · exact h2 e
  · exact h3 e
/-- What the law needs of a ledger, before a decision. -/
def Ready (B : Nat) (W : World) (l : Nat) (ns : List (Int × Int × Nat)) (vs : List Nat) (rc rm : Int) (k : Nat) (sh : Int) (across : Bool) : Prop :=
  ∀ Y, Below W.heap.size W Y → Calls Tryz.prog 17 #[.pointer (some ⟨l, 0, none⟩), reqV rc rm k sh, .bool across] Y fun e X => TouchS B Y X ∧ ZRes Y.heap.size X ns vs rc rm k sh across e
theorem zzFirst (B l s m : Nat) (cs : Array Value) (na : Option Addr) (nc : Nat) (ns : List (Int × Int × Nat)) (vs : List Nat) (rc rm : Int) (k : Nat) (sh : Int) (across : Bool) (w : World)
    (hl : w.heap[l]? = some (.cells #[.int .i32 0, .int .u32 0, .pointer (some ⟨s, 0, none⟩), .int .i32 0, .int .u32 0, .map none, .pointer none, .pointer none, .pointer none, .nilIface, .int .i64 0] 96 (0, 0)))
    (hSH : ∀ Z : World, (∀ q, q < l → Z.heap[q]? = w.heap[q]?) → ShelfAt Z s m ns vs ∧ Z.heap[s]? = some (.cells cs 58 (0, 0))) (hcs : cs.size = 4) (h0 : cs[0]? = some (.slice na ns.length nc)) (hsl : s < l) (h4 : ns.length ≤ 4096) (hvl : vs.length ≤ 65536) (hr : ReqOk k sh) (hBl : B ≤ l) :
    Calls Tryz.prog 17 #[.pointer (some ⟨l, 0, none⟩), reqV rc rm k sh, .bool across] w fun e X => TouchS B w X ∧ ZRes w.heap.size X ns vs rc rm k sh across e ∧ Ready B X l ns vs rc rm k sh across := by
  have hll := heap_lt hl
  have hn96 : ∀ q ∈ [l], ∀ (cs : Array Value) (t : TypeId), w.heap[q]? = some (Obj.cells cs t (0, 0)) → t ≠ 3 ∧ t ≠ 34 ∧ t ≠ 36 := fun q hq cs t h => by
    cases List.mem_singleton.1 hq
    rw [hl] at h
    cases h
    decide
  by_cases h2 : 2 ≤ ns.length
  · refine (zzLF l s m cs na nc ns vs rc rm k sh across w hl hSH hcs h0 hsl h2 h4 hvl hr).mono ?_
    rintro e X ⟨ho, ⟨hit, f, kg, hf, hk, hho, hLK⟩, hz⟩
    refine ⟨TouchS.of ho (by omega) (fun q hq => by cases List.mem_singleton.1 hq; exact hBl) hn96, hz, ?_⟩
    intro Y hb
    obtain ⟨mp, el, K, hKp, hKR, hKA, a1, a2, a3, a4⟩ := id hLK
    have hlX := heap_lt hKp.led
    have hSY : ∀ Z : World, (∀ q, q < l → Z.heap[q]? = Y.heap[q]?) → ShelfAt Z s m ns vs ∧ Z.heap[s]? = some (.cells cs 58 (0, 0)) := fun Z hZ => hSH Z (fun q hq => (hZ q hq).trans ((hb.block q (by omega)).trans (ho.block q (by omega) (fun e => by cases List.mem_singleton.1 e; omega))))
    have hKpY : Kept Y l (.pointer (some ⟨s, 0, none⟩)) rc rm k sh across ns.length mp el f kg (.pointer (some ⟨m, 0, none⟩)) (.slice none 0 0) false := ⟨(hb.block _ hlX).trans hKp.led, (hb.block _ (heap_lt hKp.map)).trans hKp.map, (hb.block _ (heap_lt hKp.elem)).trans hKp.elem, (hb.block _ (heap_lt hKp.find)).trans hKp.find⟩
    have hKRY : KeptRow Y l kg ns.length K := owns_below hKR hb
    refine (zzLA l s m f kg hit cs na nc ns vs rc rm k sh across Y ⟨mp, el, K, hKpY, hKRY, hKA, a1, a2, a3, a4⟩ hho hSY hcs h0 hsl h2 hvl hr).mono ?_
    rintro e' X' ⟨ho', -, hz'⟩
    have hsY := hb.size
    refine ⟨TouchS.of ho' (by omega) (fun q hq => ?_) (fun q hq cs t h => ?_), hz'⟩
    · simp only [List.mem_cons, List.not_mem_nil, or_false] at hq
      omega
    · simp only [List.mem_cons, List.not_mem_nil, or_false] at hq
      rcases hq with rfl | rfl | rfl
      · rw [hKpY.led] at h
        cases h
        decide
      · rw [hKpY.find] at h
        cases h
        decide
      · obtain ⟨-, h' | ⟨g', cap', cur, r1, -, r3, -⟩⟩ := hKRY
        · cases h'.1
        · cases r1
          rw [r3] at h
          cases h
          decide
  · refine (zzL1 l s m cs na nc ns vs rc rm k sh across _ w hl rfl hSH hcs h0 (by omega) hvl hr).mono ?_
    rintro e X ⟨ho, -, hz⟩
    refine ⟨TouchS.of ho (by omega) (fun q hq => by cases hq) (fun q hq => by cases hq), hz, ?_⟩
    intro Y hb
    have hsX := ho.size
    have hlX : X.heap[l]? = _ := (ho.block l hll (by simp)).trans hl
    have hSY : ∀ Z : World, (∀ q, q < l → Z.heap[q]? = Y.heap[q]?) → ShelfAt Z s m ns vs ∧ Z.heap[s]? = some (.cells cs 58 (0, 0)) := fun Z hZ => hSH Z (fun q hq => (hZ q hq).trans ((hb.block q (by omega)).trans (ho.block q (by omega) (by simp))))
    refine (zzL1 l s m cs na nc ns vs rc rm k sh across _ Y ((hb.block l (heap_lt hlX)).trans hlX) rfl hSY hcs h0 (by omega) hvl hr).mono ?_
    rintro e' X' ⟨ho', -, hz'⟩
    have hsY := hb.size
    exact ⟨TouchS.of ho' (by omega) (fun q hq => by cases hq) (fun q hq => by cases hq), hz'⟩

end Go.Proofs.Qxb6612460aGreatFmt
