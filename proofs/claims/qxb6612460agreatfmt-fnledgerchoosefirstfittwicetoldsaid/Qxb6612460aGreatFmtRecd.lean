/-
  recalled: which nodes are weighed again.
-/
import Derived.Test.Qxb6612460aGreatFmtFind
namespace Go.Proofs.Qxb6612460aGreatFmt
open Go.RowKit Go.Sort Go.MuLone
attribute [local go_sem] Option.isNone_none Option.isNone_some
attribute [local go_sem] sUpon mUpon
attribute [local go_sem] Mix.isVal Mix.makes

set_option maxRecDepth 100000 in
set_option maxHeartbeats 4000000 in
/-- The first time: every node of the visit list. -/
theorem recalledF (f s m c kg n : Nat) (rc rm k sh : Int) (ac : Bool) (td va : Value) (al : Option Addr) (vl vc : Nat) (hva : va = .slice al vl vc) (B : Nat) (K : List (Nat × Int)) (w : World) (hf : w.heap[f]? = some (.cells #[.int .i64 rc, .int .i64 rm, .int .i64 k, .int .i64 sh, .int .i64 0, .int .i64 0, .bool false, .string ⟨#[]⟩, .bool ac, .pointer none, .slice (some ⟨kg, 0, none⟩) n n, td, .bool true] 165 (0, 0))) (hK : KeptRow w B kg n K) (hn : 0 < n) (h1 : w.cell? ⟨s, 1, none⟩ = some (.pointer (some ⟨m, 0, none⟩))) (h3 : w.cell? ⟨s, 3, none⟩ = some va) (hsk : s ≠ kg) (hfk : f ≠ kg) :
    Calls Tryz.prog 33 #[.pointer (some ⟨f, 0, none⟩), .pointer (some ⟨s, 0, none⟩), .pointer (some ⟨c, 0, none⟩)] w fun e w' => e = .returned va ∧ OnlyS [f, kg] w w' ∧ w'.heap[f]? = some (.cells #[.int .i64 rc, .int .i64 rm, .int .i64 k, .int .i64 sh, .int .i64 0, .int .i64 0, .bool false, .string ⟨#[]⟩, .bool ac, .pointer (some ⟨m, 0, none⟩), .slice (some ⟨kg, 0, none⟩) n n, td, .bool true] 165 (0, 0)) ∧ KeptRow w' B kg n (List.replicate n (0, 0)) := by
  subst hva
  have HF : Hid _ := hf
  have HK : Hid (KeptRow w B kg n K) := hK
  have q52 : ∀ (w : World) (a : Addr), (binOp .neq 52 (.pointer none) (.pointer (some a))).run Tryz.prog w = .ok (.bool true) w := fun w a => neq_nil_ptr w a Tryz.underlying52
  have c9 := blk_c HF.out (Below.refl _ _) (i := 9) rfl
  have H1 : Hid _ := h1
  have H3 : Hid _ := h3
  have c1 := h1
  clear hf hK h1 h3
  go_enter Tryz.func33, Tryz.ntmps33
  go_wp2_with fail
  go_quiet (fail)
  go_upto_region 4 with fail
  generalize hX : w.drewN _ = X
  have HFX : Hid (X.heap[f]? = some (.cells #[.int .i64 rc, .int .i64 rm, .int .i64 k, .int .i64 sh, .int .i64 0, .int .i64 0, .bool false, .string ⟨#[]⟩, .bool ac, .pointer none, .slice (some ⟨kg, 0, none⟩) n n, td, .bool true] 165 (0, 0))) := by show _ = _; rw [← hX]; exact HF.out
  have HKX : Hid (KeptRow X B kg n K) := by show KeptRow _ _ _ _ _; rw [← hX]; exact HK.out
  have H1X : Hid (X.cell? ⟨s, 1, none⟩ = some (.pointer (some ⟨m, 0, none⟩))) := by show _ = _; rw [← hX]; exact H1.out
  have H3X : Hid (X.cell? ⟨s, 3, none⟩ = some (.slice al vl vc)) := by show _ = _; rw [← hX]; exact H3.out
  have OX : Hid (OnlyS [f, kg] w X) := by show OnlyS _ _ _; rw [← hX]; exact ⟨rfl, rfl, rfl, Nat.le_refl _, fun _ _ _ => rfl⟩
  clear hX c9 c1 HF HK H1 H3
  have c10 := blk_c HFX.out (Below.refl _ _) (i := 10) rfl
  go_upto_region 5 with (refine wpList_clearK rfl _ rfl B kg n K hn rfl HKX.out ?_; intro X1 hk1 ho1; have HK1 : Hid (KeptRow X1 B kg n (List.replicate n (0, 0))) := hk1; have HO1 : Hid _ := ho1; clear hk1 ho1)
  have nk : ∀ q, q ≠ kg → q ∉ [kg] := fun q hq => by simp only [List.mem_cons, List.not_mem_nil, or_false]; exact hq
  have HF1 : Hid _ := HO1.out.blk HFX.out (nk _ hfk)
  have H11 : Hid _ := HO1.out.cell H1X.out (nk _ hsk)
  have H31 : Hid _ := HO1.out.cell H3X.out (nk _ hsk)
  have O1 : Hid (OnlyS [f, kg] w X1) := onlyS_new OX.out HO1.out (fun q hq => .inr (by simp only [List.mem_cons, List.not_mem_nil, or_false] at hq ⊢; exact .inr hq))
  clear HFX HKX H1X H3X OX HO1 c10
  have d1 := H11.out
  have e9 := blk_c HF1.out (Below.refl _ _) (i := 9) rfl
  have g9 := blk_f HF1.out (Below.refl _ _) 9
  have HF2 : Hid ((X1.setCell ⟨f, 9, none⟩ (.pointer (some ⟨m, 0, none⟩))).heap[f]? = some (.cells #[.int .i64 rc, .int .i64 rm, .int .i64 k, .int .i64 sh, .int .i64 0, .int .i64 0, .bool false, .string ⟨#[]⟩, .bool ac, .pointer (some ⟨m, 0, none⟩), .slice (some ⟨kg, 0, none⟩) n n, td, .bool true] 165 (0, 0))) := setCell_blk HF1.out _
  have HK2 : Hid (KeptRow (X1.setCell ⟨f, 9, none⟩ (.pointer (some ⟨m, 0, none⟩))) B kg n (List.replicate n (0, 0))) := owns_setCell HK1.out (fun q hq => by cases hq; exact Ne.symm hfk)
  have O2 : Hid (OnlyS [f, kg] w (X1.setCell ⟨f, 9, none⟩ (.pointer (some ⟨m, 0, none⟩)))) := O1.out.setCell (.inl (by simp)) _
  have H32 : Hid ((X1.setCell ⟨f, 9, none⟩ (.pointer (some ⟨m, 0, none⟩))).cell? ⟨s, 3, none⟩ = some (.slice al vl vc)) := (World.cell?_setCell_other _ _ _ _ (by simp)).trans H31.out
  go_upto_region 6 with fail
  generalize hX2 : X1.setCell ⟨f, 9, none⟩ (.pointer (some ⟨m, 0, none⟩)) = X2 at *
  clear hX2 d1 e9 g9
  have d3 := H32.out
  go_wp2_with fail
  go_ret
  exact ⟨rfl, O2.out, HF2.out, HK2.out⟩

/-- What was found of the t-th node of the visit list; hit: the place of the node that was taken. -/
def kindOf (hit : Option Nat) (t : Nat) : Nat := match hit with
  | none => 1
  | some t0 => if t < t0 then 1 else if t = t0 then 2 else 3
def KAfter (K : List (Nat × Int)) (vs : List Nat) (hit : Option Nat) : Prop := ∀ (t v : Nat), vs[t]? = some v → K[v]? = some (kindOf hit t, 0)
/-- The nodes that are weighed again. -/
def todoTo (vs : List Nat) (hit : Option Nat) (t : Nat) : List Nat := match hit with
  | none => []
  | some t0 => (vs.take t).drop (t0 + 1)
/-- The best of the nodes so far. -/
def bestC (vs : List Nat) (hit : Option Nat) (t : Nat) : Array Value := match hit with
  | none => #[.int .i64 (-1), .int .u8 0, .int .i64 0, .slice none 0 0]
  | some t0 => if t ≤ t0 then #[.int .i64 (-1), .int .u8 0, .int .i64 0, .slice none 0 0] else #[.int .i64 (vs[t0]?.getD 0 : Nat), .int .u8 2, .int .i64 0, .slice none 0 0]
theorem kind_one {hit : Option Nat} {t : Nat} (h : kindOf hit t = 1) (vs : List Nat) : todoTo vs hit (t + 1) = todoTo vs hit t ∧ bestC vs hit (t + 1) = bestC vs hit t ∧ bestC vs hit t = #[.int .i64 (-1), .int .u8 0, .int .i64 0, .slice none 0 0] ∧ todoTo vs hit t = [] := by
  cases hit with
  | none => exact ⟨rfl, rfl, rfl, rfl⟩
  | some t0 =>
    simp only [kindOf] at h
    have ht : t < t0 := by
      rcases Nat.lt_or_ge t t0 with h' | h'
      · exact h'
      · rw [if_neg (by omega)] at h
        split at h <;> omega
    have e : ∀ u, u ≤ t0 → (vs.take u).drop (t0 + 1) = [] := fun u hu => List.drop_of_length_le (by rw [List.length_take]; omega)
    exact ⟨by simp only [todoTo]; rw [e _ (by omega), e _ (by omega)], by simp only [bestC]; rw [if_pos (by omega), if_pos (by omega)], by simp only [bestC]; rw [if_pos (by omega)], by simp only [todoTo]; rw [e _ (by omega)]⟩
theorem kind_two {hit : Option Nat} {t : Nat} (h : kindOf hit t = 2) (vs : List Nat) {v : Nat} (hv : vs[t]? = some v) : todoTo vs hit (t + 1) = todoTo vs hit t ∧ bestC vs hit (t + 1) = #[.int .i64 (v : Nat), .int .u8 2, .int .i64 0, .slice none 0 0] ∧ bestC vs hit t = #[.int .i64 (-1), .int .u8 0, .int .i64 0, .slice none 0 0] := by
  cases hit with
  | none => simp [kindOf] at h
  | some t0 =>
    simp only [kindOf] at h
    have ht : t = t0 := by
      split at h
      · omega
      · split at h
        · assumption
        · omega
    subst ht
    have e : ∀ u, u ≤ t + 1 → (vs.take u).drop (t + 1) = [] := fun u hu => List.drop_of_length_le (by rw [List.length_take]; omega)
    exact ⟨by simp only [todoTo]; rw [e _ (by omega), e _ (by omega)], by simp only [bestC]; rw [if_neg (by omega), hv]; rfl, by simp only [bestC]; rw [if_pos (by omega)]⟩
theorem kind_three {hit : Option Nat} {t : Nat} (h : kindOf hit t = 3) (vs : List Nat) {v : Nat} (hv : vs[t]? = some v) : todoTo vs hit (t + 1) = todoTo vs hit t ++ [v] ∧ bestC vs hit (t + 1) = bestC vs hit t := by
  cases hit with
  | none => simp [kindOf] at h
  | some t0 =>
    simp only [kindOf] at h
    have ht : t0 < t := by
      split at h
      · omega
      · split at h <;> omega
    obtain ⟨hl, rfl⟩ := List.getElem?_eq_some_iff.1 hv
    refine ⟨?_, by simp only [bestC]; rw [if_neg (by omega), if_neg (by omega)]⟩
    simp only [todoTo]
    rw [List.take_succ_eq_append_getElem hl, List.drop_append_of_le_length (by rw [List.length_take]; omega)]
theorem kind_cases (hit : Option Nat) (t : Nat) : kindOf hit t = 1 ∨ kindOf hit t = 2 ∨ kindOf hit t = 3 := by
  cases hit with
  | none => exact .inl rfl
  | some t0 =>
    simp only [kindOf]
    split
    · exact .inl rfl
    · split
      · exact .inr (.inl rfl)
      · exact .inr (.inr rfl)
theorem todoTo_length (vs : List Nat) (hit : Option Nat) (t : Nat) : (todoTo vs hit t).length ≤ vs.length := by
  cases hit with
  | none => simp [todoTo]
  | some t0 => simp only [todoTo, List.length_drop, List.length_take]; omega
theorem below_da (z : World) (k : Nat) (o : Obj) : Below z.heap.size z ((z.drewN k).alloc o) := (below_drewN (Below.refl _ _) k).alloc (Nat.le_refl _) o
/-- Behind t rounds. -/
def RoundR (w z : World) (f c m kg n : Nat) (rc rm k sh : Int) (ac : Bool) (vs : List Nat) (hit : Option Nat) (t : Nat) : Prop :=
  OnlyS [f, c] w z ∧ z.heap[c]? = some (.cells (bestC vs hit t) 127 (0, 0)) ∧ ∃ td, z.heap[f]? = some (.cells #[.int .i64 rc, .int .i64 rm, .int .i64 k, .int .i64 sh, .int .i64 0, .int .i64 0, .bool false, .string ⟨#[]⟩, .bool ac, .pointer (some ⟨m, 0, none⟩), .slice (some ⟨kg, 0, none⟩) n n, td, .bool true] 165 (0, 0)) ∧ z.ownsRow w.heap.size 3 1 td (todoTo vs hit t).length ((todoTo vs hit t).map natV)

set_option maxRecDepth 100000 in
set_option maxHeartbeats 8000000 in
/-- Again: the nodes behind the one that was taken, which is the best. -/
theorem recalledA (f s m c kg n : Nat) (rc rm k sh : Int) (ac : Bool) (ns : List (Int × Int × Nat)) (vs : List Nat) (hit : Option Nat) (B : Nat) (K : List (Nat × Int)) (w : World) (hf : w.heap[f]? = some (.cells #[.int .i64 rc, .int .i64 rm, .int .i64 k, .int .i64 sh, .int .i64 0, .int .i64 0, .bool false, .string ⟨#[]⟩, .bool ac, .pointer (some ⟨m, 0, none⟩), .slice (some ⟨kg, 0, none⟩) n n, .slice none 0 0, .bool true] 165 (0, 0))) (hK : KeptRow w B kg n K) (hKA : KAfter K vs hit) (hc : w.heap[c]? = some (.cells #[.int .i64 (-1), .int .u8 0, .int .i64 0, .slice none 0 0] 127 (0, 0)))
    (hSH : ∀ z, OnlyS [f, c] w z → ShelfAt z s m ns vs) (hnn : ns.length = n) (hvl : vs.length ≤ 65536) (hsf : s ≠ f) (hsc : s ≠ c) (hfc : f ≠ c) (hkf : kg ≠ f) (hkc : kg ≠ c) :
    Calls Tryz.prog 33 #[.pointer (some ⟨f, 0, none⟩), .pointer (some ⟨s, 0, none⟩), .pointer (some ⟨c, 0, none⟩)] w fun e w' => ∃ td, e = .returned td ∧ OnlyS [f, c] w w' ∧ w'.heap[c]? = some (.cells (bestC vs hit vs.length) 127 (0, 0)) ∧ w'.heap[f]? = some (.cells #[.int .i64 rc, .int .i64 rm, .int .i64 k, .int .i64 sh, .int .i64 0, .int .i64 0, .bool false, .string ⟨#[]⟩, .bool ac, .pointer (some ⟨m, 0, none⟩), .slice (some ⟨kg, 0, none⟩) n n, td, .bool true] 165 (0, 0)) ∧ w'.ownsRow w.heap.size 3 1 td (todoTo vs hit vs.length).length ((todoTo vs hit vs.length).map natV) := by
  have HF : Hid _ := hf
  have HK : Hid (KeptRow w B kg n K) := hK
  have HKA : Hid (KAfter K vs hit) := hKA
  have HC : Hid _ := hc
  have hcw := heap_lt hc
  have hfw := heap_lt hf
  have HSH : Hid (∀ z, OnlyS [f, c] w z → ShelfAt z s m ns vs) := hSH
  obtain ⟨j55, hj55⟩ := Option.isSome_iff_exists.1 Tryz.info55s
  have q52 : ∀ (w : World) (a : Addr), (binOp .neq 52 (.pointer (some a)) (.pointer (some a))).run Tryz.prog w = .ok (.bool false) w := fun w a => neq_ptr_same w a Tryz.underlying52 hj55
  have c9 := blk_c HF.out (Below.refl _ _) (i := 9) rfl
  have c1 := (hSH w (OnlyS.refl _ _)).mixp
  obtain ⟨i3, hi3, hz3, hs3, hy3⟩ := info_parts Tryz.info3
  clear hf hK hKA hc hSH
  go_enter Tryz.func33, Tryz.ntmps33
  go_wp2_with fail
  go_quiet (fail)
  go_upto_region 7 with fail
  generalize hX : w.drewN _ = X
  have HFX : Hid (X.heap[f]? = some (.cells #[.int .i64 rc, .int .i64 rm, .int .i64 k, .int .i64 sh, .int .i64 0, .int .i64 0, .bool false, .string ⟨#[]⟩, .bool ac, .pointer (some ⟨m, 0, none⟩), .slice (some ⟨kg, 0, none⟩) n n, .slice none 0 0, .bool true] 165 (0, 0))) := by show _ = _; rw [← hX]; exact HF.out
  have HCX : Hid (X.heap[c]? = some (.cells #[.int .i64 (-1), .int .u8 0, .int .i64 0, .slice none 0 0] 127 (0, 0))) := by show _ = _; rw [← hX]; exact HC.out
  have OX : Hid (OnlyS [f, c] w X) := by show OnlyS _ _ _; rw [← hX]; exact ⟨rfl, rfl, rfl, Nat.le_refl _, fun _ _ _ => rfl⟩
  clear hX c9 c1 HF HC
  have c11 := blk_c HFX.out (Below.refl _ _) (i := 11) rfl
  have f11 := blk_f HFX.out (Below.refl _ _) 11
  have HF1 : Hid ((X.setCell ⟨f, 11, none⟩ (.slice none 0 0)).heap[f]? = some (.cells #[.int .i64 rc, .int .i64 rm, .int .i64 k, .int .i64 sh, .int .i64 0, .int .i64 0, .bool false, .string ⟨#[]⟩, .bool ac, .pointer (some ⟨m, 0, none⟩), .slice (some ⟨kg, 0, none⟩) n n, .slice none 0 0, .bool true] 165 (0, 0))) := setCell_blk HFX.out _
  have HC1 : Hid ((X.setCell ⟨f, 11, none⟩ (.slice none 0 0)).heap[c]? = some (.cells #[.int .i64 (-1), .int .u8 0, .int .i64 0, .slice none 0 0] 127 (0, 0))) := (Below.heap_setCell _ _ _ _ (Ne.symm hfc)).trans HCX.out
  have O1 : Hid (OnlyS [f, c] w (X.setCell ⟨f, 11, none⟩ (.slice none 0 0))) := OX.out.setCell (.inl (by simp)) _
  go_upto_region 8 with fail
  generalize hX1 : X.setCell ⟨f, 11, none⟩ (.slice none 0 0) = X1 at *
  clear hX1 c11 f11 HFX HCX OX
  obtain ⟨va, vc, v0, -⟩ := (HSH.out w (OnlyS.refl _ _)).visit
  have V0 : Hid (w.cell? ⟨s, 3, none⟩ = some (.slice va vs.length vc)) := v0
  have hsS : s ∉ [f, c] := by simp only [List.mem_cons, List.not_mem_nil, or_false, not_or]; exact ⟨hsf, hsc⟩
  have hkS : kg ∉ [f, c] := by simp only [List.mem_cons, List.not_mem_nil, or_false, not_or]; exact ⟨hkf, hkc⟩
  have v1 : X1.cell? ⟨s, 3, none⟩ = some (.slice va vs.length vc) := O1.out.cell V0.out hsS
  have HR0 : Hid (RoundR w X1 f c m kg n rc rm k sh ac vs hit 0) := by
    have e1 : bestC vs hit 0 = #[.int .i64 (-1), .int .u8 0, .int .i64 0, .slice none 0 0] := by cases hit <;> simp [bestC]
    have e2 : todoTo vs hit 0 = [] := by cases hit <;> simp [todoTo]
    refine ⟨O1.out, by rw [e1]; exact HC1.out, _, HF1.out, ?_⟩
    rw [e2]
    exact ⟨by simp, .inl ⟨rfl, rfl⟩⟩
  clear v0
  go_wp2_with fail
  clear v1
  go_loopw [53] (fun iv z => ∃ t : Nat, t ≤ vs.length ∧ iv = .int .i64 t ∧ Hid (RoundR w z f c m kg n rc rm k sh ac vs hit t)) (fun iv _ => vs.length - (intOf iv).toNat)
  case atStart => exact ⟨0, Nat.zero_le _, rfl, HR0.out⟩
  case round =>
    clear HR0
    obtain ⟨t, ht, rfl, hR⟩ := hrel
    obtain ⟨z, hzz⟩ : ∃ z, z = wr := ⟨_, rfl⟩
    subst hzz
    have Oz : Hid (OnlyS [f, c] w z) := hR.out.1
    have HSz : Hid (ShelfAt z s m ns vs) := HSH.out z Oz.out
    by_cases htl : t < vs.length
    · obtain ⟨v, hvt'⟩ : ∃ v, vs[t]? = some v := ⟨vs[t], List.getElem?_eq_getElem htl⟩
      have HVT : Hid (vs[t]? = some v) := hvt'
      obtain ⟨a', c', w3, row'⟩ := HSz.out.visit
      have e3 := Oz.out.cell V0.out hsS
      rw [w3] at e3
      obtain rfl : a' = va := by have := Option.some.inj e3; simp only [Value.slice.injEq] at this; exact this.1
      obtain ⟨vg, vo, hva, hvc⟩ := row' t (natV v) (by rw [List.getElem?_map, hvt']; rfl)
      subst hva
      have vcell : z.cell? ⟨vg, vo + t, none⟩ = some (.int .i64 (v : Nat)) := hvc
      have hvn : v < n := by rw [← hnn]; exact HSz.out.inv v (List.mem_of_getElem? hvt')
      obtain ⟨nd, hnd⟩ : ∃ nd, ns[v]? = some nd := ⟨ns[v]'(by omega), List.getElem?_eq_getElem _⟩
      obtain ⟨b, fr, hNA, hFA, -⟩ := HSz.out.node v nd hnd
      have n14 := hFA.books.c14
      obtain ⟨ng, no, nl, cap, n1, n2, n3⟩ := hNA.nodes
      have hKz : KeptRow z B kg n K := Oz.out.owns HK.out (fun q hq => by cases hq; exact hkS)
      have HKl : K.length = n := by have := hKz.1; rw [keptCells_length] at this; omega
      have lX : (keptCells K).length = n * 3 := by rw [keptCells_length, HKl]
      obtain ⟨k0, k1, k2⟩ := keptCells_at K v _ (HKA.out t v hvt')
      have d0 := (hKz.cellAt (v * 3) (by omega)).trans k0
      have d1 := (hKz.cellAt (v * 3 + 1) (by omega)).trans k1
      have d2 := (hKz.cellAt (v * 3 + 2) (by omega)).trans k2
      obtain ⟨hO, hcz, td, hfz, htd⟩ := hR.out
      have HCz : Hid _ := hcz
      have HFz : Hid _ := hfz
      have HTd : Hid _ := htd
      have f10 := blk_c hfz (Below.refl _ _) (i := 10) rfl
      simp only at d0 d1 d2
      clear hO hcz hfz htd hR k0 k1 k2 lX HKl hKz hFA hNA hnd w3 row' e3 hvt' hvc
      rcases kind_cases hit t with hk | hk | hk
      · rw [hk] at d0
        obtain ⟨g1, g2, g3, g4⟩ := kind_one hk vs
        have HG1 : Hid (todoTo vs hit (t + 1) = todoTo vs hit t ∧ bestC vs hit (t + 1) = bestC vs hit t) := ⟨g1, g2⟩
        clear g1 g2 g3 g4 hk
        have d0' : z.cell? ⟨kg, v * 3, none⟩ = some (.int .u8 1) := d0
        clear d0
        go_wp2_with fail
        go_quiet (fail)
        go_wp2_with fail
        refine (beaten_no c v 1 0 (z.drewN _) (by decide) (by decide)).mono ?_
        rintro e Z ⟨rfl, hbZ⟩
        have hbZ' : Below z.heap.size z Z := ⟨hbZ.os, hbZ.tape, hbZ.output, hbZ.size, hbZ.block⟩
        have HRR : Hid (RoundR w Z f c m kg n rc rm k sh ac vs hit (t + 1)) := by
          refine ⟨Oz.out.trans (OnlyS.of hbZ'), by rw [HG1.out.2]; exact (hbZ'.block _ (heap_lt HCz.out)).trans HCz.out, td, (hbZ'.block _ (heap_lt HFz.out)).trans HFz.out, ?_⟩
          rw [HG1.out.1]
          exact owns_below HTd.out hbZ'
        clear hbZ hbZ' vcell n14 n1 n2 n3 d0' d1 d2 f10
        go_wp2_with fail
        go_roundw
        case rel => first | exact ⟨t + 1, by omega, by go_num, HRR.out⟩ | ((repeat apply Exists.intro); exact ⟨⟨t + 1, by omega, by go_num, HRR.out⟩, rfl⟩)
        case measure => simp [intOf]; omega
      · rw [hk] at d0
        obtain ⟨g1, g2, g3⟩ := kind_two hk vs HVT.out
        have HG1 : Hid (todoTo vs hit (t + 1) = todoTo vs hit t ∧ bestC vs hit (t + 1) = #[.int .i64 (v : Nat), .int .u8 2, .int .i64 0, .slice none 0 0]) := ⟨g1, g2⟩
        have HC0 : Hid (z.heap[c]? = some (.cells #[.int .i64 (-1), .int .u8 0, .int .i64 0, .slice none 0 0] 127 (0, 0))) := by have := HCz.out; rw [g3] at this; exact this
        clear g1 g2 g3 hk HCz
        have d0' : z.cell? ⟨kg, v * 3, none⟩ = some (.int .u8 2) := d0
        clear d0
        go_wp2_with fail
        go_quiet (fail)
        go_wp2_with fail
        have cc0 : z.cell? ⟨c, 0, none⟩ = some (.int .i64 (-1)) := blk_c HC0.out (Below.refl _ _) (i := 0) rfl
        refine (beaten_first c v 0 (-1) (z.drewN _) cc0 (by decide)).mono ?_
        rintro e Z ⟨rfl, hbZ⟩
        have hbZ' : Below z.heap.size z Z := ⟨hbZ.os, hbZ.tape, hbZ.output, hbZ.size, hbZ.block⟩
        have HCZ : Hid (Z.heap[c]? = some (.cells #[.int .i64 (-1), .int .u8 0, .int .i64 0, .slice none 0 0] 127 (0, 0))) := (hbZ'.block _ (heap_lt HC0.out)).trans HC0.out
        have HFZ : Hid _ := (hbZ'.block _ (heap_lt HFz.out)).trans HFz.out
        have HTZ : Hid _ := owns_below HTd.out hbZ'
        have OZ : Hid (OnlyS [f, c] w Z) := Oz.out.trans (OnlyS.of hbZ')
        have r0 := (hbZ'.cell (cell_lt d0')).trans d0'
        have r1 := (hbZ'.cell (cell_lt d1)).trans d1
        clear hbZ hbZ' vcell n14 n1 n2 n3 d0' d1 d2 f10 cc0
        go_wp2_with (refine wpList_store_blk2 rfl 127 _ _ rfl c _ rfl rfl 127 _ HCZ.out (by kernel_rfl) rfl (by simp [Value.oneCell']) ?_; intro W7 hw7 ho7; have HW7 : Hid _ := hw7; have HO7 : Hid _ := ho7; clear hw7 ho7)
        have HRR : Hid (RoundR w W7 f c m kg n rc rm k sh ac vs hit (t + 1)) := by
          refine ⟨onlyS_new OZ.out ⟨HO7.out.2.2.os, HO7.out.2.2.tape, HO7.out.2.2.output, by rw [HO7.out.2.1]; exact Nat.le_refl _, fun q _ hne => HO7.out.1 q (fun e => hne (by rw [e]; exact List.mem_singleton.2 rfl))⟩ (T := [c]) (fun q hq => .inr (by simp only [List.mem_cons, List.not_mem_nil, or_false] at hq ⊢; exact .inr hq)), by rw [HG1.out.2]; exact HW7.out, td, (HO7.out.1 f hfc).trans HFZ.out, ?_⟩
          rw [HG1.out.1]
          refine ownsRow_same HTZ.out (fun q hq => HO7.out.1 q ?_)
          exact fun e => by have h1 := owns_block HTZ.out q hq; have h2 := hcw; omega
        clear r0 r1
        go_roundw
        case rel => first | exact ⟨t + 1, by omega, by go_num, HRR.out⟩ | ((repeat apply Exists.intro); exact ⟨⟨t + 1, by omega, by go_num, HRR.out⟩, rfl⟩)
        case measure => simp [intOf]; omega
      · rw [hk] at d0
        obtain ⟨g1, g2⟩ := kind_three hk vs HVT.out
        have HG1 : Hid (todoTo vs hit (t + 1) = todoTo vs hit t ++ [v] ∧ bestC vs hit (t + 1) = bestC vs hit t) := ⟨g1, g2⟩
        clear g1 g2 hk
        have d0' : z.cell? ⟨kg, v * 3, none⟩ = some (.int .u8 3) := d0
        clear d0
        obtain ⟨ta, tc, htd, -⟩ := owns_slice HTd.out
        subst htd
        have hzs := Oz.out.size
        have hul := todoTo_length vs hit t
        go_wp2_with fail
        go_quiet (fail)
        have f11 := blk_c HFz.out (Below.refl _ _) (i := 11) rfl
        go_wp2_with (at_builtin; go_must (refine wpList_append_own_at _ rfl _ _ 23 rfl w.heap.size 3 i3 (.int .i64 0) 1 8 Tryz.underlying23 hi3 hz3 hs3 hy3 rfl (by decide) (.slice ta (todoTo vs hit t).length tc) (todoTo vs hit t).length ((todoTo vs hit t).map natV) rfl (World.ownsRow.alloc (w := z.drewN _) HTd.out _) ⟨z.heap.size, 0, none⟩ 1 1 [.int .i64 (v : Nat)] rfl rfl (cell_one_new (z.drewN _) _ _) (by intro u hu; simp at hu; subst hu; rfl) (by unfold maxLen; omega) (by omega) (by simp [World.drewN]; omega) ?_); intro v' Y4 hown4 hgrow4 _ hat4; obtain ⟨gv, cv, rfl⟩ := owns_form' hown4 (by omega); have HV4 : Hid _ := hown4; have HG4 : Hid _ := hgrow4; have HF4 : Hid (Y4.heap[f]? = some (.cells #[.int .i64 rc, .int .i64 rm, .int .i64 k, .int .i64 sh, .int .i64 0, .int .i64 0, .bool false, .string ⟨#[]⟩, .bool ac, .pointer (some ⟨m, 0, none⟩), .slice (some ⟨kg, 0, none⟩) n n, .slice ta (todoTo vs hit t).length tc, .bool true] 165 (0, 0))) := grown_blk HG4.out (alloc_blk (w := z.drewN _) HFz.out _) (fun e => by have := owns_block HTd.out _ e; omega); have cc3 := blk_c HF4.out (Below.refl _ _) (i := 11) rfl; have ff3 := blk_f HF4.out (Below.refl _ _) 11; clear hown4 hgrow4 hat4)
        have HRR : Hid (RoundR w (Y4.setCell ⟨f, 11, none⟩ (.slice (some ⟨gv, 0, none⟩) ((todoTo vs hit t).length + 1) cv)) f c m kg n rc rm k sh ac vs hit (t + 1)) := by
          have hgv := owns_block HV4.out gv rfl
          refine ⟨OnlyS.setCell ?_ (.inl (by simp)) _, ?_, _, setCell_blk HF4.out _, ?_⟩
          · refine (Oz.out.trans (OnlyS.of (below_da z _ _))).grown HG4.out (fun q hq => .inr (owns_block HTd.out q hq))
          · rw [HG1.out.2, Below.heap_setCell _ _ _ _ (Ne.symm hfc)]
            exact grown_blk HG4.out (alloc_blk (w := z.drewN _) HCz.out _) (fun e => by have := owns_block HTd.out _ e; omega)
          · rw [HG1.out.1, List.length_append, List.map_append]
            exact owns_setCell HV4.out (fun q hq => by cases hq; simp only; omega)
        clear vcell n14 n1 n2 n3 d0' d1 d2 f10 f11 cc3 ff3
        go_roundw
        case rel => first | exact ⟨t + 1, by omega, by go_num, HRR.out⟩ | ((repeat apply Exists.intro); exact ⟨⟨t + 1, by omega, by go_num, HRR.out⟩, rfl⟩)
        case measure => simp [intOf]; omega
    · obtain rfl : t = vs.length := by omega
      obtain ⟨hO, hcz, td, hfz, htd⟩ := hR.out
      have HCz : Hid _ := hcz
      have HFz : Hid _ := hfz
      have HTd : Hid _ := htd
      obtain ⟨ta, tc, htd', -⟩ := owns_slice HTd.out
      subst htd'
      have f11 := blk_c hfz (Below.refl _ _) (i := 11) rfl
      clear hO hcz hfz htd hR
      go_wp2_with fail
      go_ret
      exact ⟨_, rfl, Oz.out, HCz.out, HFz.out, HTd.out⟩

end Go.Proofs.Qxb6612460aGreatFmt
