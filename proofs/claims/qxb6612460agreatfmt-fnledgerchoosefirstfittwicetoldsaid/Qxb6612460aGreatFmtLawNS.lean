/-
  The small functions of the law of first fit, and its plain side.
-/
import Derived.Test.Qxb6612460aGreatFmtNewNP
import Derived.Test.Qxb6612460aGreatFmtLawS
import Derived.Test.Qxb6612460aGreatFmtZZN
namespace Go.Proofs.Qxb6612460aGreatFmt
open Go.RowKit Go.Sort
attribute [local go_sem] Option.isNone_none Option.isNone_some
attribute [local go_sem] sUpon mUpon
attribute [local go_sem] Mix.isVal Mix.makes

/-! ### The plain law -/
def nsOf (cs ms gs : List Int) : List Nd := cs.zip (ms.zip (gs.map Int.toNat))
theorem nsOf_length (cs ms gs : List Int) : (nsOf cs ms gs).length = min cs.length (min ms.length gs.length) := by simp [nsOf, List.length_zip]
theorem nsOf_at {cs ms gs : List Int} {i : Nat} (hi : i < (nsOf cs ms gs).length) : ∃ (h1 : i < cs.length) (h2 : i < ms.length) (h3 : i < gs.length), (nsOf cs ms gs)[i]? = some (cs[i], ms[i], gs[i].toNat) := by
  have hl := nsOf_length cs ms gs
  refine ⟨by omega, by omega, by omega, ?_⟩
  rw [List.getElem?_eq_getElem hi]
  simp [nsOf, List.getElem_zip]
/-- Every node's triple is met first at a node of the visit list. -/
theorem visited {ns : List Nd} : ∀ (u : Nat) (nd : Nd), ns[u]? = some nd → ∃ u0, u0 ≤ u ∧ ns[u0]? = some nd ∧ isFirst ns u0 = true := by
  intro u
  induction u using Nat.strongRecOn with
  | ind u ih =>
    intro nd hn
    by_cases hf : isFirst ns u = true
    · exact ⟨u, Nat.le_refl _, hn, hf⟩
    · unfold isFirst at hf
      rw [hn] at hf
      simp only [Bool.not_eq_true', Bool.not_eq_false, List.contains_eq_mem, decide_eq_true_eq] at hf
      obtain ⟨i, hi⟩ := List.mem_iff_getElem?.1 hf
      rw [List.getElem?_take] at hi
      split at hi
      · rename_i hlt
        obtain ⟨u0, h1, h2⟩ := ih i hlt nd hi
        exact ⟨u0, by omega, h2⟩
      · cases hi
theorem mem_vsOf {ns : List Nd} {u n : Nat} (hu : u < n) (hf : isFirst ns u = true) : u ∈ vsOf ns n := by
  unfold vsOf
  exact List.mem_filter.2 ⟨List.mem_range.2 hu, hf⟩
/-- First fit over all nodes. -/
def FirstFit (ns : List Nd) (rc rm : Int) (k : Nat) (v : Nat) (nd : Nd) : Prop := ns[v]? = some nd ∧ FitN rc rm k nd ∧ ∀ u, u < v → ∀ n, ns[u]? = some n → ¬ FitN rc rm k n
def NoFit (ns : List Nd) (rc rm : Int) (k : Nat) : Prop := ∀ (u : Nat) n, ns[u]? = some n → ¬ FitN rc rm k n
theorem hit_first {ns : List Nd} {rc rm : Int} {k v : Nat} {nd : Nd} (h : HitN ns (vsOf ns ns.length) rc rm k v nd) : FirstFit ns rc rm k v nd := by
  obtain ⟨t0, h1, h2, h3, h4⟩ := h
  refine ⟨h2, h3, fun u hu n hn hf => ?_⟩
  obtain ⟨u0, e1, e2, e3⟩ := visited u n hn
  have hl := (List.getElem?_eq_some_iff.1 e2).1
  have hm := mem_vsOf hl e3
  obtain ⟨i, hi⟩ := List.mem_iff_getElem?.1 hm
  have hs := vsOf_sorted ns ns.length
  obtain ⟨q1, q2⟩ := List.getElem?_eq_some_iff.1 hi
  obtain ⟨r1, r2⟩ := List.getElem?_eq_some_iff.1 h1
  have hit : i < t0 := by
    rcases Nat.lt_or_ge i t0 with h | h
    · exact h
    · exfalso
      rcases Nat.eq_or_lt_of_le h with e | e
      · subst e
        omega
      · have := List.pairwise_iff_getElem.1 hs t0 i r1 q1 e
        omega
  refine h4 u0 (List.mem_iff_getElem?.2 ⟨i, ?_⟩) n e2 hf
  rw [List.getElem?_take, if_pos hit]
  exact hi
theorem none_nofit {ns : List Nd} {rc rm : Int} {k : Nat} (h : NoneN ns (vsOf ns ns.length) rc rm k) : NoFit ns rc rm k := by
  intro u n hn hf
  obtain ⟨u0, e1, e2, e3⟩ := visited u n hn
  exact h u0 (mem_vsOf ((List.getElem?_eq_some_iff.1 e2).1) e3) n e2 hf
theorem first_same {ns : List Nd} {rc rm : Int} {k v v' : Nat} {nd nd' : Nd} (h : FirstFit ns rc rm k v nd) (h' : FirstFit ns rc rm k v' nd') : v = v' ∧ nd = nd' := by
  have e : v = v' := by
    rcases Nat.lt_trichotomy v v' with e | e | e
    · exact absurd h.2.1 (h'.2.2 v e nd h.1)
    · exact e
    · exact absurd h'.2.1 (h.2.2 v' e nd' h'.1)
  subst e
  have := h.1.symm.trans h'.1
  exact ⟨rfl, Option.some.inj this⟩

/-! ### The small functions -/
set_option maxRecDepth 100000 in
theorem zzMin3 (a b c : Nat) (w : World) : Calls Tryz.prog 7 #[.int .i64 (a : Nat), .int .i64 (b : Nat), .int .i64 (c : Nat)] w fun e w' => e = .returned (.int .i64 ((min a (min b c) : Nat) : Int)) ∧ w = w' := by
  by_cases h1 : b < a
  · have d1 : decide (b < a) = true := by simp [h1]
    by_cases h2 : c < b
    · have d2 : decide (c < b) = true := by simp [h2]
      have e : min a (min b c) = c := by omega
      rw [e]
      go_enter Tryz.func7, Tryz.ntmps7
      go_wp2_with fail
      go_ret
      exact ⟨rfl, rfl⟩
    · have d2 : decide (c < b) = false := by simp; omega
      have e : min a (min b c) = b := by omega
      rw [e]
      go_enter Tryz.func7, Tryz.ntmps7
      go_wp2_with fail
      go_ret
      exact ⟨rfl, rfl⟩
  · have d1 : decide (b < a) = false := by simp; omega
    by_cases h2 : c < a
    · have d2 : decide (c < a) = true := by simp [h2]
      have e : min a (min b c) = c := by omega
      rw [e]
      go_enter Tryz.func7, Tryz.ntmps7
      go_wp2_with fail
      go_ret
      exact ⟨rfl, rfl⟩
    · have d2 : decide (c < a) = false := by simp; omega
      have e : min a (min b c) = a := by omega
      rw [e]
      go_enter Tryz.func7, Tryz.ntmps7
      go_wp2_with fail
      go_ret
      exact ⟨rfl, rfl⟩

/-- Some Boolean; nothing turns. -/
def AnyBool (w : World) (e : Ending) (w' : World) : Prop := (∃ bv, e = .returned (.bool bv)) ∧ w = w'
set_option maxRecDepth 100000 in
theorem zzBytesN (a1 a2 a3 : Option Addr) (c1 c2 c3 n1 n2 n3 : Nat) (rc rm rg rs : Int) (across : Bool) (w : World) (h1 : n1 ≤ 9223372036854775807) (h2 : n2 ≤ 9223372036854775807) (h3 : n3 ≤ 9223372036854775807) :
    Calls Tryz.prog 6 #[.slice a1 n1 c1, .slice a2 n2 c2, .slice a3 n3 c3, .int .i64 rc, .int .i64 rm, .int .i64 rg, .int .i64 rs, .bool across] w (AnyBool w) := by
  have lem : ∀ (m : Nat), 1048576 < m → decide ((1048576 : Int) < ((m : Nat) : Int)) = true := fun m h => by simp; omega
  have lem' : ∀ (m : Nat), ¬ 1048576 < m → decide ((1048576 : Int) < ((m : Nat) : Int)) = false := fun m h => by simp; omega
  by_cases b1 : 1048576 < n1
  · have d1 := lem n1 b1
    go_enter Tryz.func6, Tryz.ntmps6
    go_wp2_with fail
    go_ret
    exact ⟨⟨_, rfl⟩, rfl⟩
  have d1 := lem' n1 b1
  by_cases b2 : 1048576 < n2
  · have d2 := lem n2 b2
    go_enter Tryz.func6, Tryz.ntmps6
    go_wp2_with fail
    go_ret
    exact ⟨⟨_, rfl⟩, rfl⟩
  have d2 := lem' n2 b2
  by_cases b3 : 1048576 < n1 + n2
  · have d3 : decide (1048576 < n1 + n2) = true := by simp [b3]
    have d3' : decide ((1048576 : Int) < (n1 : Int) + (n2 : Int)) = true := by simp; omega
    go_enter Tryz.func6, Tryz.ntmps6
    go_wp2_with fail
    go_ret
    exact ⟨⟨_, rfl⟩, rfl⟩
  have d3 : decide (1048576 < n1 + n2) = false := by simp; omega
  have d3' : decide ((1048576 : Int) < (n1 : Int) + (n2 : Int)) = false := by simp; omega
  by_cases b4 : 1048576 < n3
  · have d4 := lem n3 b4
    go_enter Tryz.func6, Tryz.ntmps6
    go_wp2_with fail
    go_ret
    exact ⟨⟨_, rfl⟩, rfl⟩
  have d4 := lem' n3 b4
  by_cases b5 : 1048576 < n1 + n2 + n3
  · have d5 : decide (1048576 < n1 + n2 + n3) = true := by simp [b5]
    have d5' : decide ((1048576 : Int) < (n1 : Int) + (n2 : Int) + (n3 : Int)) = true := by simp; omega
    go_enter Tryz.func6, Tryz.ntmps6
    go_wp2_with fail
    go_ret
    exact ⟨⟨_, rfl⟩, rfl⟩
  have d5 : decide (1048576 < n1 + n2 + n3) = false := by simp; omega
  have d5' : decide ((1048576 : Int) < (n1 : Int) + (n2 : Int) + (n3 : Int)) = false := by simp; omega
  go_enter Tryz.func6, Tryz.ntmps6
  go_wp2_with fail
  go_ret
  exact ⟨⟨_, rfl⟩, rfl⟩

def GoodTo (cs ms gs : List Int) (n : Nat) : Prop := ∀ i, i < n → ∃ (h1 : i < cs.length) (h2 : i < ms.length) (h3 : i < gs.length), 0 ≤ cs[i] ∧ 0 ≤ ms[i] ∧ 0 ≤ gs[i] ∧ gs[i] ≤ 65536
theorem GoodTo.next {cs ms gs : List Int} {n : Nat} (h : GoodTo cs ms gs n) (h1 : n < cs.length) (h2 : n < ms.length) (h3 : n < gs.length) (e1 : 0 ≤ cs[n]) (e2 : 0 ≤ ms[n]) (e3 : 0 ≤ gs[n]) (e4 : gs[n] ≤ 65536) : GoodTo cs ms gs (n + 1) := by
  intro i hi
  rcases Nat.lt_or_ge i n with hl | hl
  · exact h i hl
  · obtain rfl : i = n := by omega
    exact ⟨h1, h2, h3, e1, e2, e3, e4⟩
def OutPost (cs ms gs : List Int) (n : Nat) (w : World) (e : Ending) (w' : World) : Prop := (∃ bv, e = .returned (.bool bv) ∧ (bv = false → GoodTo cs ms gs n)) ∧ w = w'
theorem outPost_yes {cs ms gs : List Int} {n : Nat} (w : World) : OutPost cs ms gs n w (.returned (.bool true)) w := ⟨⟨true, rfl, fun h => by cases h⟩, rfl⟩
theorem outPost_no {cs ms gs : List Int} {n : Nat} (w : World) (h : GoodTo cs ms gs n) : OutPost cs ms gs n w (.returned (.bool false)) w := ⟨⟨false, rfl, fun _ => h⟩, rfl⟩

set_option maxRecDepth 100000 in
set_option maxHeartbeats 4000000 in
theorem zzOutside (a1 a2 a3 : Option Addr) (c1 c2 c3 : Nat) (cs ms gs : List Int) (n : Nat) (w : World) (hC : RowAt w a1 (cs.map (Value.int .i64))) (hM : RowAt w a2 (ms.map (Value.int .i64))) (hG : RowAt w a3 (gs.map (Value.int .i64))) (hn : n ≤ min cs.length (min ms.length gs.length)) (hn2 : n ≤ 4096) :
    Calls Tryz.prog 8 #[.slice a1 cs.length c1, .slice a2 ms.length c2, .slice a3 gs.length c3, .int .i64 (n : Nat)] w (OutPost cs ms gs n w) := by
  have HC : Hid (RowAt w a1 (cs.map (Value.int .i64))) := hC
  have HM : Hid (RowAt w a2 (ms.map (Value.int .i64))) := hM
  have HG : Hid (RowAt w a3 (gs.map (Value.int .i64))) := hG
  clear hC hM hG
  go_enter Tryz.func8, Tryz.ntmps8
  go_wp2_with fail
  go_loop [9, 10] (fun sv iv => ∃ (j s : Nat), j ≤ n ∧ iv = .int .i64 j ∧ sv = .int .i64 s ∧ s ≤ 65536 ∧ Hid (GoodTo cs ms gs j)) (fun _ iv => n - (intOf iv).toNat)
  case atStart => exact ⟨0, 0, Nat.zero_le _, rfl, rfl, by omega, fun i hi => by omega⟩
  case round =>
    obtain ⟨j, s, hj, rfl, rfl, hs, HGD⟩ := hrel
    by_cases hjl : j < n
    · have l1 : j < cs.length := by omega
      have l2 : j < ms.length := by omega
      have l3 : j < gs.length := by omega
      obtain ⟨b1, o1, ha, x1⟩ := row_i64 HC.out j l1
      cases ha
      obtain ⟨b2, o2, ha, x2⟩ := row_i64 HM.out j l2
      cases ha
      obtain ⟨b3, o3, ha, x3⟩ := row_i64 HG.out j l3
      cases ha
      have HNX : Hid (0 ≤ cs[j] → 0 ≤ ms[j] → 0 ≤ gs[j] → gs[j] ≤ 65536 → GoodTo cs ms gs (j + 1)) := fun e1 e2 e3 e4 => HGD.out.next l1 l2 l3 e1 e2 e3 e4
      generalize cs[j] = x at *
      generalize ms[j] = y at *
      generalize gs[j] = z at *
      by_cases bx : x < 0
      · have dx : decide (x < 0) = true := by simp [bx]
        go_wp2_with fail
        go_ret
        exact outPost_yes _
      have dx : decide (x < 0) = false := by simp; omega
      by_cases by' : y < 0
      · have dy : decide (y < 0) = true := by simp [by']
        go_wp2_with fail
        go_ret
        exact outPost_yes _
      have dy : decide (y < 0) = false := by simp; omega
      by_cases bz : z < 0
      · have dz : decide (z < 0) = true := by simp [bz]
        go_wp2_with fail
        go_ret
        exact outPost_yes _
      have dz : decide (z < 0) = false := by simp; omega
      by_cases bZ : 65536 < z
      · have dZ : decide (65536 < z) = true := by simp [bZ]
        go_wp2_with fail
        go_ret
        exact outPost_yes _
      have dZ : decide (65536 < z) = false := by simp; omega
      have HN1 : Hid (GoodTo cs ms gs (j + 1)) := HNX.out (by omega) (by omega) (by omega) (by omega)
      obtain ⟨zn, rfl⟩ := Int.eq_ofNat_of_zero_le (show 0 ≤ z by omega)
      by_cases bT : 65536 < s + zn
      · have dT : decide (65536 < s + zn) = true := by simp [bT]
        have dT' : decide ((65536 : Int) < (s : Int) + (zn : Int)) = true := by simp; omega
        go_wp2_with fail
        go_ret
        exact outPost_yes _
      have dT : decide (65536 < s + zn) = false := by simp; omega
      have dT' : decide ((65536 : Int) < (s : Int) + (zn : Int)) = false := by simp; omega
      go_wp2_with fail
      go_round
      case rel => exact ⟨j + 1, s + zn, by omega, by go_num, by go_num, by omega, HN1.out⟩
      case measure => simp [intOf]; omega
    · obtain rfl : n = j := by omega
      go_wp2_with fail
      go_ret
      exact outPost_no _ HGD.out

def FitPost (ns : List Nd) (rc rm : Int) (k : Nat) (w : World) (e : Ending) (w' : World) : Prop := ((∃ (v : Nat) (nd : Nd), e = .returned (.int .i64 (v : Nat)) ∧ FirstFit ns rc rm k v nd) ∨ (e = .returned (.int .i64 (-1)) ∧ NoFit ns rc rm k)) ∧ w = w'
theorem fitPost_yes {ns : List Nd} {rc rm : Int} {k v : Nat} {nd : Nd} (w : World) (h : FirstFit ns rc rm k v nd) : FitPost ns rc rm k w (.returned (.int .i64 (v : Nat))) w := ⟨.inl ⟨v, nd, rfl, h⟩, rfl⟩
theorem fitPost_no {ns : List Nd} {rc rm : Int} {k : Nat} (w : World) (h : NoFit ns rc rm k) : FitPost ns rc rm k w (.returned (.int .i64 (-1))) w := ⟨.inr ⟨rfl, h⟩, rfl⟩

set_option maxRecDepth 100000 in
set_option maxHeartbeats 4000000 in
theorem zzFirstFit (a1 a2 a3 : Option Addr) (c1 c2 c3 : Nat) (cs ms gs : List Int) (n : Nat) (rc rm : Int) (k : Nat) (sh : Int) (hr : ReqOk k sh) (w : World) (hC : RowAt w a1 (cs.map (Value.int .i64))) (hM : RowAt w a2 (ms.map (Value.int .i64))) (hG : RowAt w a3 (gs.map (Value.int .i64))) (hn : n = (nsOf cs ms gs).length) (hn2 : n ≤ 4096) (hgd : GoodTo cs ms gs n) :
    Calls Tryz.prog 12 #[.slice a1 cs.length c1, .slice a2 ms.length c2, .slice a3 gs.length c3, .int .i64 (n : Nat), .int .i64 rc, .int .i64 rm, .int .i64 (k : Nat), .int .i64 sh] w (FitPost (nsOf cs ms gs) rc rm k w) := by
  have HC : Hid (RowAt w a1 (cs.map (Value.int .i64))) := hC
  have HM : Hid (RowAt w a2 (ms.map (Value.int .i64))) := hM
  have HG : Hid (RowAt w a3 (gs.map (Value.int .i64))) := hG
  have HGD : Hid (GoodTo cs ms gs n) := hgd
  have HNN : Hid (n = (nsOf cs ms gs).length) := hn
  clear hC hM hG hgd hn
  go_enter Tryz.func12, Tryz.ntmps12
  go_upto_if 21 with fail
  go_cut [17] from 19 to 21 (fun v wx => v = .int .i64 (k : Nat) ∧ w = wx)
  case first =>
    rcases hr with ⟨rfl, hk⟩ | ⟨h0, h1, rfl⟩
    · go_wp2_with fail
      go_meet
      first | exact ⟨rfl, rfl⟩ | ((repeat apply Exists.intro); exact ⟨⟨rfl, rfl⟩, rfl⟩)
    · have d0 : decide (0 < sh) = true := by simp [h0]
      go_wp2_with fail
      go_meet
      first | exact ⟨rfl, rfl⟩ | ((repeat apply Exists.intro); exact ⟨⟨rfl, rfl⟩, rfl⟩)
  case rest =>
  obtain ⟨rfl, rfl⟩ := hcut
  go_wp2_with fail
  go_loop [18] (fun iv => ∃ j : Nat, j ≤ n ∧ iv = .int .i64 j ∧ Hid (∀ u, u < j → ∀ m, (nsOf cs ms gs)[u]? = some m → ¬ FitN rc rm k m)) (fun iv => n - (intOf iv).toNat)
  case atStart => exact ⟨0, Nat.zero_le _, rfl, fun u hu => by omega⟩
  case round =>
    obtain ⟨j, hj, rfl, HNF⟩ := hrel
    by_cases hjl : j < n
    · obtain ⟨l1, l2, l3, hat⟩ := nsOf_at (cs := cs) (ms := ms) (gs := gs) (i := j) (by rw [← HNN.out]; exact hjl)
      obtain ⟨b1, o1, ha, x1⟩ := row_i64 HC.out j l1
      cases ha
      obtain ⟨b2, o2, ha, x2⟩ := row_i64 HM.out j l2
      cases ha
      obtain ⟨b3, o3, ha, x3⟩ := row_i64 HG.out j l3
      cases ha
      have hz : 0 ≤ gs[j] := by obtain ⟨_, _, _, _, _, h, _⟩ := HGD.out j hjl; exact h
      have HAT : Hid ((nsOf cs ms gs)[j]? = some (cs[j], ms[j], gs[j].toNat)) := hat
      clear hat
      generalize cs[j] = x at *
      generalize ms[j] = y at *
      generalize gs[j] = z at *
      obtain ⟨zn, rfl⟩ := Int.eq_ofNat_of_zero_le hz
      have HAT' : Hid ((nsOf cs ms gs)[j]? = some (x, y, zn)) := HAT.out
      have HN1 : Hid (¬ (rc ≤ x ∧ rm ≤ y ∧ k ≤ zn) → ∀ u, u < j + 1 → ∀ m, (nsOf cs ms gs)[u]? = some m → ¬ FitN rc rm k m) := fun hno u hu m hm => by
        rcases Nat.lt_or_ge u j with h | h
        · exact HNF.out u h m hm
        · obtain rfl : u = j := by omega
          rw [HAT'.out] at hm
          cases hm
          exact hno
      by_cases bx : rc ≤ x
      · have dx : decide (rc ≤ x) = true := by simp [bx]
        by_cases bY : rm ≤ y
        · have dy : decide (rm ≤ y) = true := by simp [bY]
          by_cases bz : k ≤ zn
          · have dz : decide (k ≤ zn) = true := by simp [bz]
            have HFF : Hid (FirstFit (nsOf cs ms gs) rc rm k j (x, y, zn)) := ⟨HAT'.out, ⟨bx, bY, bz⟩, HNF.out⟩
            go_wp2_with fail
            go_ret
            exact fitPost_yes _ HFF.out
          · have dz : decide (k ≤ zn) = false := by simp; omega
            have HN2 : Hid _ := HN1.out (fun e => bz e.2.2)
            go_wp2_with fail
            go_round
            case rel => exact ⟨j + 1, by omega, by go_num, HN2.out⟩
            case measure => simp [intOf]; omega
        · have dy : decide (rm ≤ y) = false := by simp; omega
          have HN2 : Hid _ := HN1.out (fun e => bY e.2.1)
          go_wp2_with fail
          go_round
          case rel => exact ⟨j + 1, by omega, by go_num, HN2.out⟩
          case measure => simp [intOf]; omega
      · have dx : decide (rc ≤ x) = false := by simp; omega
        have HN2 : Hid _ := HN1.out (fun e => bx e.1)
        go_wp2_with fail
        go_round
        case rel => exact ⟨j + 1, by omega, by go_num, HN2.out⟩
        case measure => simp [intOf]; omega
    · obtain rfl : n = j := by omega
      have HNO : Hid (NoFit (nsOf cs ms gs) rc rm k) := fun u m hm => HNF.out u (by rw [HNN.out]; exact (List.getElem?_eq_some_iff.1 hm).1) m hm
      go_wp2_with fail
      go_ret
      exact fitPost_no _ HNO.out

end Go.Proofs.Qxb6612460aGreatFmt
