/-
  A region that draws its order, whose first m operations are quiet (Derived/Deep/Quiet.lean) and whose other operations (stores, makings) each wait for all of those: the first m are walked once, in the order of the text; the rest by 'wpAny', in a world of the class.
-/
import Derived.Deep.Quiet
import Derived.Lib.QuietBelow
import Derived.RegionTactic
import Derived.BigQuiet
namespace Go.Proofs.Qxb6612460aGreatFmt
open Go

section
variable {P : Program} {ops : Array Oper} {md : Region.Mode} {C : World → Prop} {m : Nat} {R : Array Bool → Act → Prop}

/-- Whatever order is picked among the first m: fuel of them have not come up yet. -/
def wpAnyM (P : Program) (md : Region.Mode) (ops : Array Oper) (C : World → Prop) (m : Nat) (R : Array Bool → Act → Prop) : Nat → Array Bool → Act → Prop
  | 0, listed, a => R listed a
  | fuel + 1, listed, a => Region.ready md ops listed ≠ [] ∧ ∀ i ∈ Region.ready md ops listed, i < m ∧ qOp P ops C i (wpAnyM P md ops C m R fuel (listed.setIfInBounds i true)) a

theorem wpAny_of_M {N : Nat} {Q' : Exit → Act → World → Prop} (hQ : ∀ listed a w, C w → R listed a → wpAny P md ops Q' N listed a w) :
    ∀ (fuel : Nat) (listed : Array Bool) (a : Act) (w : World), C w → wpAnyM P md ops C m R fuel listed a → wpAny P md ops Q' (fuel + N) listed a w
  | 0, listed, a, w, hw, h => by rw [Nat.zero_add]; exact hQ listed a w hw h
  | fuel + 1, listed, a, w, hw, h => by
    have e : fuel + 1 + N = (fuel + N) + 1 := by omega
    rw [e]
    exact ⟨fun h0 => absurd h0 h.1, fun i hi => wpOp_of_qOp hw (fun a' w' hw' => wpAny_of_M hQ fuel _ a' w' hw') (h.2 i hi).2⟩

/-- How many of the first m have not come up. -/
def Unl (m : Nat) (listed : Array Bool) : Nat := ((List.range m).filter fun k => listed.getD k true == false).length

theorem filter_length_set {l : List Nat} (hn : l.Nodup) {p q : Nat → Bool} {i : Nat} (hi : i ∈ l) (hp : p i = true) (hq : q i = false) (hs : ∀ k, k ≠ i → q k = p k) : (l.filter q).length + 1 = (l.filter p).length := by
  induction l with
  | nil => cases hi
  | cons x r ih =>
    have hnx : x ∉ r ∧ r.Nodup := List.nodup_cons.1 hn
    rcases List.mem_cons.1 hi with rfl | h
    · have hr : r.filter q = r.filter p := List.filter_congr fun k hk => hs k (fun e => hnx.1 (e ▸ hk))
      rw [List.filter_cons, List.filter_cons, if_pos hp, if_neg (by rw [hq]; exact Bool.false_ne_true), hr]
      rfl
    · have hne : x ≠ i := fun e => hnx.1 (e ▸ h)
      have := ih hnx.2 h
      rw [List.filter_cons, List.filter_cons, hs x hne]
      split
      · simp only [List.length_cons]; omega
      · exact this

theorem unl_set {listed : Array Bool} {i : Nat} (hi : i < m) (h : listed.getD i true = false) : Unl m (listed.setIfInBounds i true) + 1 = Unl m listed := by
  have hlt : i < listed.size := by
    rcases Nat.lt_or_ge i listed.size with h' | h'
    · exact h'
    · rw [Array.getD_eq_getD_getElem?, Array.getElem?_eq_none h'] at h; cases h
  refine filter_length_set List.nodup_range (List.mem_range.2 hi) (by rw [h]; rfl) ?_ (fun k hk => by rw [getD_set_ne true (Ne.symm hk)])
  simp [hlt]
theorem unl_zero {listed : Array Bool} (h : Unl m listed = 0) (k : Nat) (hk : k < m) : listed.getD k true = true := by
  have h1 := List.eq_nil_of_length_eq_zero h
  have h2 := List.filter_eq_nil_iff.1 h1 k (List.mem_range.2 hk)
  cases hx : listed.getD k true with
  | true => rfl
  | false => rw [hx] at h2; simp at h2

theorem wpAnyM_first {i : Nat} {oi : Oper} {v : Value} (hi : ops[i]? = some oi) (him : i < m) (hsel : ∀ (j : Nat) (o : Oper) cs b, ops[j]? = some o → o.op ≠ .select cs b)
    (hsuf : ∀ j oj, ops[j]? = some oj → m ≤ j → ∀ k, k < m → ∃ e ∈ oj.after, Region.binds md e = true ∧ e.on = k) :
    ∀ (fuel : Nat) (listed : Array Bool) (a : Act), Unl m listed = fuel + 1 →
      (∀ j oj, ops[j]? = some oj → j ≠ i → listed.getD j true = false → (∀ e ∈ oj.after, Region.binds md e = true → e.on ≠ i) → oi.apart ops oj = true) →
      i ∈ Region.ready md ops listed → YieldsIn P ops C oi v a →
      wpAnyM P md ops C m R fuel (listed.setIfInBounds i true) (a.put oi.dst v) → wpAnyM P md ops C m R (fuel + 1) listed a := by
  have small : ∀ (listed : Array Bool) (j : Nat), i ∈ Region.ready md ops listed → j ∈ Region.ready md ops listed → j < m := by
    intro listed j hr hj
    rcases Nat.lt_or_ge j m with h | h
    · exact h
    · exfalso
      obtain ⟨_, oj, hoj, hall⟩ := mem_ready.1 hj
      obtain ⟨e, he, hb, hon⟩ := hsuf j oj hoj h i him
      have h1 := hall e he hb
      have h0 := (mem_ready.1 hr).1
      rw [hon] at h1
      rcases Nat.lt_or_ge i listed.size with h' | h'
      · simp [h'] at h0 h1; rw [h0] at h1; cases h1
      · simp [Array.getElem?_eq_none h'] at h1
  intro fuel
  induction fuel with
  | zero =>
    intro listed a hu _ hr hy H
    refine ⟨fun h => (by rw [h] at hr; cases hr), fun j hj => ⟨small listed j hr hj, ?_⟩⟩
    by_cases hji : j = i
    · subst hji; exact hy.qOp hi H
    · exfalso
      have h1 := unl_set (m := m) him (mem_ready.1 hr).1
      have h2 := unl_zero (m := m) (listed := listed.setIfInBounds i true) (by omega) j (small listed j hr hj)
      rw [getD_set_ne true (Ne.symm hji)] at h2
      rw [(mem_ready.1 hj).1] at h2
      cases h2
  | succ fuel ih =>
    intro listed a hu hfree hr hy H
    refine ⟨fun h => (by rw [h] at hr; cases hr), fun j hj => ⟨small listed j hr hj, ?_⟩⟩
    by_cases hji : j = i
    · subst hji; exact hy.qOp hi H
    · have h1 := (H.2 j (ready_mono hj hji)).2
      obtain ⟨hjun, oj, hoj, hall⟩ := mem_ready.1 hj
      have hnot : ∀ e ∈ oj.after, Region.binds md e = true → e.on ≠ i := fun e he hb heq => by
        have h1 := hall e he hb
        have h0 := (mem_ready.1 hr).1
        rw [heq] at h1
        rcases Nat.lt_or_ge i listed.size with h' | h'
        · simp [h'] at h0 h1; rw [h0] at h1; cases h1
        · simp [Array.getElem?_eq_none h'] at h1
      have h2 := qOp_put hoj (hfree j oj hoj hji hjun hnot) (fun cs b => hsel i oi cs b hi) (fun cs b => hsel j oj cs b hoj) hy h1
      have hfree' : ∀ k ok, ops[k]? = some ok → k ≠ i → (listed.setIfInBounds j true).getD k true = false →
          (∀ e ∈ ok.after, Region.binds md e = true → e.on ≠ i) → oi.apart ops ok = true := fun k ok hk hki hun hno => by
        refine hfree k ok hk hki ?_ hno
        by_cases hjk : j = k
        · subst hjk; exact hjun
        · rw [getD_set_ne true hjk] at hun; exact hun
      have hu' : Unl m (listed.setIfInBounds j true) = fuel + 1 := by
        have := unl_set (m := m) (small listed j hr hj) hjun
        omega
      refine qOp_mono (fun a' h3 => ih (listed.setIfInBounds j true) a' hu' hfree' (ready_mono hr (Ne.symm hji)) h3.1 ?_) h2
      rw [Array.setIfInBounds_comm _ _ hji]
      exact h3.2

/-- The first n from k on may each be taken as they stand in the text. -/
def lexPre (md : Region.Mode) (ops : Array Oper) : Nat → Nat → Array Bool → Bool
  | 0, _, _ => true
  | n + 1, k, listed => (Region.ready md ops listed).contains k && Region.free md ops listed k && lexPre md ops n (k + 1) (listed.setIfInBounds k true)
def setFrom : Nat → Nat → Array Bool → Array Bool
  | 0, _, listed => listed
  | n + 1, k, listed => setFrom n (k + 1) (listed.setIfInBounds k true)

theorem wpAnyM_lex {T : Act → Prop} (hs : Region.noSelect ops = true) (hsuf : ∀ j oj, ops[j]? = some oj → m ≤ j → ∀ k, k < m → ∃ e ∈ oj.after, Region.binds md e = true ∧ e.on = k) :
    ∀ (l : List Oper) (k : Nat) (listed : Array Bool) (a : Act), k + l.length = m → Unl m listed = l.length → (∀ j, j < l.length → l[j]? = ops[k + j]?) → lexPre md ops l.length k listed = true →
      wpQuiet P ops C T l a → wpAnyM P md ops C m (fun L a' => L = setFrom l.length k listed ∧ T a') l.length listed a
  | [], k, listed, a, _, _, _, _, h => ⟨rfl, h⟩
  | o :: l, k, listed, a, hk, hu, hl, hB, h => by
    have h0 : ops[k]? = some o := by simpa using (hl 0 (by simp)).symm
    simp only [List.length_cons, lexPre, Bool.and_eq_true] at hB
    obtain ⟨⟨hr, hf⟩, hB'⟩ := hB
    have hst : qOp P ops C k (wpQuiet P ops C T l) a := by unfold qOp; simp only [h0]; exact h
    obtain ⟨v, hy, hK⟩ := yieldsIn_of_qOp h0 hst
    have hr' : k ∈ Region.ready md ops listed := by simpa using hr
    have hu' := unl_set (m := m) (i := k) (by simp at hk; omega) (mem_ready.1 hr').1
    have hx : Unl m (listed.setIfInBounds k true) = l.length := by simp only [List.length_cons] at hu; omega
    have hn : k + 1 + l.length = m := by simp only [List.length_cons] at hk; omega
    have hj : ∀ j, j < l.length → l[j]? = ops[k + 1 + j]? := fun j hj => by
      have := hl (j + 1) (by simp; omega)
      simpa [Nat.add_assoc, Nat.add_comm 1 j] using this
    exact wpAnyM_first h0 (by simp at hk; omega) (Region.noSelect_spec hs) hsuf l.length listed a (by simpa using hu) (Region.free_spec h0 hf) hr' hy
      (wpAnyM_lex hs hsuf l (k + 1) _ _ hn hx hj hB' hK)

def sufB (md : Region.Mode) (ops : Array Oper) (m : Nat) : Bool :=
  (List.range ops.size).all fun j => decide (j < m) || match ops[j]? with
    | none => true
    | some oj => (List.range m).all fun k => oj.after.any fun e => Region.binds md e && e.on == k
theorem suf_of {md : Region.Mode} {ops : Array Oper} {m : Nat} (h : sufB md ops m = true) : ∀ j oj, ops[j]? = some oj → m ≤ j → ∀ k, k < m → ∃ e ∈ oj.after, Region.binds md e = true ∧ e.on = k := by
  intro j oj hoj hj k hk
  have h1 := List.all_eq_true.1 h j (List.mem_range.2 (Array.getElem?_eq_some_iff.1 hoj).1)
  rw [hoj] at h1
  simp only [Bool.or_eq_true, decide_eq_true_eq] at h1
  rcases h1 with h1 | h1
  · omega
  · have h2 := List.all_eq_true.1 h1 k (List.mem_range.2 hk)
    obtain ⟨e, he, hb⟩ := Array.any_eq_true'.1 h2
    simp only [Bool.and_eq_true, beq_iff_eq] at hb
    exact ⟨e, he, hb.1, hb.2⟩

theorem unl_all (m n : Nat) (h : m ≤ n) : Unl m (Array.replicate n false) = m := by
  unfold Unl
  rw [List.filter_eq_self.2, List.length_range]
  intro k hk
  have : k < n := Nat.lt_of_lt_of_le (List.mem_range.1 hk) h
  simp [this]

/-- The region: its first m operations quiet in the class, then the others. -/
theorem wp_region_quiet_then {id : Nat} {Q : Exit → Act → World → Prop} {a : Act} {w : World} {l : List Oper} (m : Nat) (hm : P.follows .mixedOrders = true)
    (hB : (decide (m ≤ l.length) && Region.noSelect l.toArray && sufB .any l.toArray m && lexPre .any l.toArray m 0 (Array.replicate l.length false)) = true)
    (h : wpQuiet P l.toArray (fun w' => ∃ p : Regrown, w' = Sort.grow (redrawn w p.d) p.os) (fun a' => ∀ w', RowKit.Below w.heap.size w w' → wpAny P .any l.toArray Q (l.length - m) (setFrom m 0 (Array.replicate l.length false)) a' w') (l.take m) a) :
    (Code.region id l.toArray true).wp P Q a w := by
  simp only [Bool.and_eq_true, decide_eq_true_eq] at hB
  obtain ⟨⟨⟨hle, hns⟩, hsb⟩, hlex⟩ := hB
  refine wp_region_any hm ?_
  have hlen : (l.take m).length = m := by rw [List.length_take]; omega
  have key := wpAnyM_lex (P := P) (C := fun w' => ∃ p : Regrown, w' = Sort.grow (redrawn w p.d) p.os) (m := m) (T := fun a' => ∀ w', RowKit.Below w.heap.size w w' → wpAny P .any l.toArray Q (l.length - m) (setFrom m 0 (Array.replicate l.length false)) a' w') hns (suf_of hsb) (l.take m) 0 (Array.replicate l.length false) a
    (by rw [hlen]; omega) (by rw [hlen]; exact unl_all m _ hle) (fun j hj => by rw [hlen] at hj; simp [hj]) (by rw [hlen]; exact hlex) h
  rw [hlen] at key
  have hsize : l.toArray.size = m + (l.length - m) := by simp; omega
  have e0 : Array.replicate l.toArray.size false = Array.replicate l.length false := by simp
  rw [hsize, show Array.replicate (m + (l.length - m)) false = Array.replicate l.length false by congr 1; omega]
  refine wpAny_of_M (fun L a' w' hw' ⟨hL, hT⟩ => ?_) m _ a _ ⟨⟨w.drawn + 1, #[]⟩, by rw [Sort.grow_empty]; rfl⟩ key
  obtain ⟨p, rfl⟩ := hw'
  rw [hL]
  exact hT _ (below_regrown w p.d p.os)

/-- From here on one operation alone may come up each time: the text's next. -/
def forced (md : Region.Mode) (ops : Array Oper) : Nat → Nat → Array Bool → Bool
  | 0, _, listed => (Region.ready md ops listed).isEmpty
  | n + 1, k, listed => Region.ready md ops listed == [k] && forced md ops n (k + 1) (listed.setIfInBounds k true)

theorem wpAny_of_list {Q : Exit → Act → World → Prop} : ∀ (l : List Oper) (k : Nat) (listed : Array Bool) (a : Act) (w : World), (∀ j, l[j]? = ops[k + j]?) → forced md ops l.length k listed = true →
    wpList P ops Q l a w → wpAny P md ops Q l.length listed a w
  | [], k, listed, a, w, _, hB, h => ⟨by simpa [forced] using hB, h⟩
  | o :: l, k, listed, a, w, hl, hB, h => by
    have h0 : ops[k]? = some o := by simpa using (hl 0).symm
    simp only [List.length_cons, forced, Bool.and_eq_true, beq_iff_eq] at hB
    refine ⟨fun e => (by rw [hB.1] at e; cases e), fun i hi => ?_⟩
    rw [hB.1] at hi
    obtain rfl : i = k := by simpa using hi
    have ih : ∀ a w, wpList P ops Q l a w → wpAny P md ops Q l.length (listed.setIfInBounds i true) a w := fun a w h =>
      wpAny_of_list l (i + 1) _ a w (fun j => by have := hl (j + 1); simpa [Nat.add_assoc, Nat.add_comm 1 j] using this) hB.2 h
    unfold wpOp
    rw [h0]
    show if Region.wanted o (yielded ops a.tmps) = true then _ else _
    rw [wpList] at h
    split
    · rename_i hw
      rw [if_pos hw] at h
      rcases h with h | h
      · exact .inl (Oper.wp_mono ih h)
      · exact .inr h
    · rename_i hw
      rw [if_neg hw] at h
      exact ih _ _ h

/-- The region: its first m operations quiet in the class, the others one behind the other. -/
theorem wp_region_quiet_list {id : Nat} {Q : Exit → Act → World → Prop} {a : Act} {w : World} {l : List Oper} (m : Nat) (hm : P.follows .mixedOrders = true)
    (hB : (decide (m ≤ l.length) && Region.noSelect l.toArray && sufB .any l.toArray m && lexPre .any l.toArray m 0 (Array.replicate l.length false)) = true)
    (hF : forced .any l.toArray (l.length - m) m (setFrom m 0 (Array.replicate l.length false)) = true)
    (h : wpQuiet P l.toArray (fun w' => ∃ p : Regrown, w' = Sort.grow (redrawn w p.d) p.os) (fun a' => ∀ w', RowKit.Below w.heap.size w w' → wpList P l.toArray Q (l.drop m) a' w') (l.take m) a) :
    (Code.region id l.toArray true).wp P Q a w := by
  refine wp_region_quiet_then m hm hB ?_
  have hle : m ≤ l.length := by simp only [Bool.and_eq_true, decide_eq_true_eq] at hB; exact hB.1.1.1
  have go : ∀ (xs : List Oper) (b : Act), wpQuiet P l.toArray (fun w' => ∃ p : Regrown, w' = Sort.grow (redrawn w p.d) p.os) (fun a' => ∀ w', RowKit.Below w.heap.size w w' → wpList P l.toArray Q (l.drop m) a' w') xs b →
      wpQuiet P l.toArray (fun w' => ∃ p : Regrown, w' = Sort.grow (redrawn w p.d) p.os) (fun a' => ∀ w', RowKit.Below w.heap.size w w' → wpAny P .any l.toArray Q (l.length - m) (setFrom m 0 (Array.replicate l.length false)) a' w') xs b := by
    intro xs
    induction xs with
    | nil =>
      intro b hb w' hw'
      have := wpAny_of_list (P := P) (Q := Q) (md := .any) (ops := l.toArray) (l.drop m) m (setFrom m 0 (Array.replicate l.length false)) b w' (fun j => by simp [List.getElem?_drop]) (by rw [List.length_drop]; exact hF) (hb w' hw')
      rw [List.length_drop] at this
      exact this
    | cons o xs ih =>
      intro b hb
      rw [wpQuiet] at hb ⊢
      split
      · rename_i hw; rw [if_pos hw] at hb; exact Oper.quiet_mono ih hb
      · rename_i hw; rw [if_neg hw] at hb; exact ih _ hb
  exact go _ _ h

end
end Go.Proofs.Qxb6612460aGreatFmt
