/-
  A region that draws its order, some of whose operations MAKE memory at any time (alloc, makeSlice): one walk in the order of the text serves every order: a maker's value is known only by a property that lasts (it is stable under 'Below').
-/
import Derived.Test.Qxb6612460aGreatFmtQuiet
namespace Go.Proofs.Qxb6612460aGreatFmt
open Go Go.RowKit

/-- What lasts while old memory stands and new blocks are laid. -/
def Lasts (κ : World → Prop) : Prop := ∀ W W', Below W.heap.size W W' → κ W → κ W'

/-- The three kinds. -/
abbrev Sp := Value ⊕ (Value → World → Prop) ⊕ Unit
abbrev Sp.quiet (v : Value) : Sp := .inl v
abbrev Sp.maker (Ψ : Value → World → Prop) : Sp := .inr (.inl Ψ)
abbrev Sp.skip : Sp := .inr (.inr ())

section
variable {P : Program} {ops : Array Oper} {md : Region.Mode} {m : Nat} {w : World}

def sUpon (P : Program) (W : World) (v : Value) : Result Next → Prop
  | .ok (.value u) w' => w' = W ∧ u = v
  | .ok .skip w' => w' = W ∧ v = undef
  | .ok (.enter f args) w' => w' = W ∧ Calls P f args W (fun e w'' => e = .returned v ∧ Below W.heap.size W w'')
  | _ => False
def mUpon (W : World) (Ψ : Value → World → Prop) : Result Next → Prop
  | .ok (.value u) w' => Below W.heap.size W w' ∧ Ψ u w'
  | _ => False

def Y (P : Program) (ops : Array Oper) (w : World) (o : Oper) (a : Act) : Sp → Prop
  | .inl v => Region.wanted o (yielded ops a.tmps) = true ∧ ∀ W, Below w.heap.size w W → sUpon P W v ((execOp a.eval o).run P W)
  | .inr (.inl Ψ) => Region.wanted o (yielded ops a.tmps) = true ∧ (∀ u, Lasts (Ψ u)) ∧ ∀ W, Below w.heap.size w W → mUpon W Ψ ((execOp a.eval o).run P W)
  | .inr (.inr ()) => Region.wanted o (yielded ops a.tmps) = false
def outs : Sp → Value → Prop
  | .inl v, u => u = v
  | .inr (.inl _), _ => True
  | .inr (.inr ()), u => u = undef
def know : Sp → Value → World → Prop
  | .inr (.inl Ψ), u, W => Ψ u W
  | _, _, _ => True
theorem outs_some : ∀ s : Sp, ∃ u, outs s u
  | .inl v => ⟨v, rfl⟩
  | .inr (.inl _) => ⟨undef, trivial⟩
  | .inr (.inr ()) => ⟨undef, rfl⟩

theorem Y_same {o : Oper} {a a' : Act} {s : Sp} (he : execOp a'.eval o = execOp a.eval o) (hw : Region.wanted o (yielded ops a'.tmps) = Region.wanted o (yielded ops a.tmps)) (h : Y P ops w o a s) : Y P ops w o a' s := by
  cases s <;> simp only [Y, he, hw] at * <;> exact h

/-- Whatever order is picked among the first m; κ: what is known. -/
def N (P : Program) (md : Region.Mode) (ops : Array Oper) (w : World) (m : Nat) (sp : Nat → Sp) (R : Array Bool → Act → (World → Prop) → Prop) : Nat → Array Bool → Act → (World → Prop) → Prop
  | 0, listed, a, κ => R listed a κ
  | fuel + 1, listed, a, κ => Region.ready md ops listed ≠ [] ∧ ∀ i ∈ Region.ready md ops listed, i < m ∧ ∃ o, ops[i]? = some o ∧ Y P ops w o a (sp i) ∧
      ∀ u, outs (sp i) u → N P md ops w m sp R fuel (listed.setIfInBounds i true) (a.put o.dst u) (fun W => κ W ∧ know (sp i) u W)

variable {sp : Nat → Sp} {R : Array Bool → Act → (World → Prop) → Prop}

theorem N_mono (hR : ∀ L a κ κ', (∀ W, κ' W → κ W) → R L a κ → R L a κ') : ∀ (fuel : Nat) (listed : Array Bool) (a : Act) (κ κ' : World → Prop), (∀ W, κ' W → κ W) → N P md ops w m sp R fuel listed a κ → N P md ops w m sp R fuel listed a κ'
  | 0, _, _, _, _, hk, h => hR _ _ _ _ hk h
  | fuel + 1, _, _, _, _, hk, h => ⟨h.1, fun i hi => by
      obtain ⟨h1, o, h2, h3, h4⟩ := h.2 i hi
      exact ⟨h1, o, h2, h3, fun u hu => N_mono hR fuel _ _ _ _ (fun W hW => ⟨hk W hW.1, hW.2⟩) (h4 u hu)⟩⟩

theorem wpAny_of_N {n : Nat} {Q' : Exit → Act → World → Prop} (hQ : ∀ L a κ W, Below w.heap.size w W → κ W → R L a κ → wpAny P md ops Q' n L a W) :
    ∀ (fuel : Nat) (listed : Array Bool) (a : Act) (κ : World → Prop) (W : World), Lasts κ → Below w.heap.size w W → κ W → N P md ops w m sp R fuel listed a κ → wpAny P md ops Q' (fuel + n) listed a W
  | 0, listed, a, κ, W, _, hW, hk, h => by rw [Nat.zero_add]; exact hQ listed a κ W hW hk h
  | fuel + 1, listed, a, κ, W, hl, hW, hk, h => by
    have e : fuel + 1 + n = (fuel + n) + 1 := by omega
    rw [e]
    refine ⟨fun h0 => absurd h0 h.1, fun i hi => ?_⟩
    obtain ⟨_, o, ho, hy, hn⟩ := h.2 i hi
    unfold wpOp
    rw [ho]
    show if Region.wanted o (yielded ops a.tmps) = true then _ else _
    rcases hs : sp i with v | Ψ | ⟨⟩
    ·
      rw [hs] at hy hn
      rw [if_pos hy.1]
      have h3 := hy.2 W hW
      refine .inl ?_
      have hK : ∀ w', Below w.heap.size w w' → κ w' → wpAny P md ops Q' (fuel + n) (listed.setIfInBounds i true) (a.put o.dst v) w' := fun w' hw' hk' =>
        wpAny_of_N hQ fuel _ _ _ w' (fun W W' hb h => ⟨hl W W' hb h.1, trivial⟩) hw' ⟨hk', trivial⟩ (hn v rfl)
      unfold Oper.wp
      generalize (execOp a.eval o).run P W = r at *
      cases r with
      | ok nx w' =>
        cases nx <;> simp only [sUpon] at h3 <;> simp only [Oper.upon]
        case value u => obtain ⟨e1, e2⟩ := h3; rw [e1, e2]; exact hK _ hW hk
        case skip => obtain ⟨e1, e2⟩ := h3; rw [e1, ← e2]; exact hK _ hW hk
        case enter f args =>
          obtain ⟨e1, hc⟩ := h3
          rw [e1]
          exact hc.mono fun e w'' ⟨he, hb⟩ => by subst he; exact hK _ (hW.trans (hb.mono hW.size)) (hl _ _ hb hk)
      | halt x w' => simp only [sUpon] at h3
    ·
      rw [hs] at hy hn
      rw [if_pos hy.1]
      have h3 := hy.2.2 W hW
      refine .inl ?_
      unfold Oper.wp
      generalize (execOp a.eval o).run P W = r at *
      cases r with
      | ok nx w' =>
        cases nx <;> simp only [mUpon] at h3
        case value u =>
          simp only [Oper.upon]
          obtain ⟨hb, hp⟩ := h3
          exact wpAny_of_N hQ fuel _ _ _ w' (fun A A' hb h => ⟨hl A A' hb h.1, hy.2.1 u A A' hb h.2⟩) (hW.trans (hb.mono hW.size)) ⟨hl _ _ hb hk, hp⟩ (hn u trivial)
      | halt x w' => simp only [mUpon] at h3
    ·
      rw [hs] at hy hn
      rw [if_neg (by rw [show Region.wanted o (yielded ops a.tmps) = false from hy]; exact Bool.false_ne_true)]
      exact wpAny_of_N hQ fuel _ _ _ W (fun A A' hb h => ⟨hl A A' hb h.1, trivial⟩) hW ⟨hk, trivial⟩ (hn undef rfl)

theorem N_first (hR : ∀ L a κ κ', (∀ W, κ' W → κ W) → R L a κ → R L a κ') {i : Nat} {oi : Oper} (hi : ops[i]? = some oi) (him : i < m) (hsel : ∀ (j : Nat) (o : Oper) cs b, ops[j]? = some o → o.op ≠ .select cs b)
    (hsuf : ∀ j oj, ops[j]? = some oj → m ≤ j → ∀ k, k < m → ∃ e ∈ oj.after, Region.binds md e = true ∧ e.on = k) :
    ∀ (fuel : Nat) (listed : Array Bool) (a : Act) (κ : World → Prop), Unl m listed = fuel + 1 →
      (∀ j oj, ops[j]? = some oj → j ≠ i → listed.getD j true = false → (∀ e ∈ oj.after, Region.binds md e = true → e.on ≠ i) → oi.apart ops oj = true) →
      i ∈ Region.ready md ops listed → Y P ops w oi a (sp i) →
      (∀ u, outs (sp i) u → N P md ops w m sp R fuel (listed.setIfInBounds i true) (a.put oi.dst u) (fun W => κ W ∧ know (sp i) u W)) → N P md ops w m sp R (fuel + 1) listed a κ := by
  have small : ∀ (listed : Array Bool) (j : Nat), i ∈ Region.ready md ops listed → j ∈ Region.ready md ops listed → j < m := by
    intro listed j hr hj
    rcases Nat.lt_or_ge j m with h | h
    · exact h
    · exfalso
      obtain ⟨_, oj, hoj, hall⟩ := mem_ready.1 hj
      obtain ⟨e, he, hb, hon⟩ := hsuf j oj hoj h i him
      have h1 := hall e he hb
      have h0 := (mem_ready.1 hr).1
      rw [hon] at h1
      rcases Nat.lt_or_ge i listed.size with h' | h'
      · simp [h'] at h0 h1; rw [h0] at h1; cases h1
      · simp [Array.getElem?_eq_none h'] at h1
  intro fuel
  induction fuel with
  | zero =>
    intro listed a κ hu _ hr hy H
    refine ⟨fun h => (by rw [h] at hr; cases hr), fun j hj => ⟨small listed j hr hj, ?_⟩⟩
    by_cases hji : j = i
    · subst hji; exact ⟨oi, hi, hy, H⟩
    · exfalso
      have h1 := unl_set (m := m) him (mem_ready.1 hr).1
      have h2 := unl_zero (m := m) (listed := listed.setIfInBounds i true) (by omega) j (small listed j hr hj)
      rw [getD_set_ne true (Ne.symm hji)] at h2
      rw [(mem_ready.1 hj).1] at h2
      cases h2
  | succ fuel ih =>
    intro listed a κ hu hfree hr hy H
    refine ⟨fun h => (by rw [h] at hr; cases hr), fun j hj => ⟨small listed j hr hj, ?_⟩⟩
    by_cases hji : j = i
    · subst hji; exact ⟨oi, hi, hy, H⟩
    · obtain ⟨hjun, oj, hoj, hall⟩ := mem_ready.1 hj
      have hnot : ∀ e ∈ oj.after, Region.binds md e = true → e.on ≠ i := fun e he hb heq => by
        have h1 := hall e he hb
        have h0 := (mem_ready.1 hr).1
        rw [heq] at h1
        rcases Nat.lt_or_ge i listed.size with h' | h'
        · simp [h'] at h0 h1; rw [h0] at h1; cases h1
        · simp [Array.getElem?_eq_none h'] at h1
      obtain ⟨p1, p2, p3⟩ := Oper.apart_spec (hfree j oj hoj hji hjun hnot)
      have hsi := fun cs b => hsel i oi cs b hi
      have hsj := fun cs b => hsel j oj cs b hoj
      obtain ⟨u0, hu0⟩ := outs_some (sp i)
      have key : ∀ u, outs (sp i) u → Y P ops w oj (a.put oi.dst u) (sp j) ∧ ∀ y, outs (sp j) y → N P md ops w m sp R fuel ((listed.setIfInBounds i true).setIfInBounds j true) ((a.put oi.dst u).put oj.dst y) (fun W => (κ W ∧ know (sp i) u W) ∧ know (sp j) y W) := by
        intro u hu'
        obtain ⟨_, oj', hoj', hyj, hn⟩ := (H u hu').2 j (ready_mono hj hji)
        rw [hoj] at hoj'
        cases hoj'
        exact ⟨hyj, hn⟩
      refine ⟨oj, hoj, Y_same (execOp_put oj hsj a oi.dst u0 p1).symm (wanted_put oj a oi.dst u0 p1).symm (key u0 hu0).1, fun y hy' => ?_⟩
      have hfree' : ∀ k ok, ops[k]? = some ok → k ≠ i → (listed.setIfInBounds j true).getD k true = false →
          (∀ e ∈ ok.after, Region.binds md e = true → e.on ≠ i) → oi.apart ops ok = true := fun k ok hk hki hun hno => by
        refine hfree k ok hk hki ?_ hno
        by_cases hjk : j = k
        · subst hjk; exact hjun
        · rw [getD_set_ne true hjk] at hun; exact hun
      have hu' : Unl m (listed.setIfInBounds j true) = fuel + 1 := by
        have := unl_set (m := m) (small listed j hr hj) hjun
        omega
      refine ih (listed.setIfInBounds j true) (a.put oj.dst y) _ hu' hfree' (ready_mono hr (Ne.symm hji)) (Y_same (execOp_put oi hsi a oj.dst y p3) (wanted_put oi a oj.dst y p3) hy) (fun u hu'' => ?_)
      have h3 := (key u hu'').2 y hy'
      rw [Array.setIfInBounds_comm _ _ (Ne.symm hji), Act.put_comm a u y p2] at h3
      exact N_mono hR _ _ _ _ _ (fun W hW => ⟨⟨hW.1.1, hW.2⟩, hW.1.2⟩) h3

/-! ### The lexical walk -/

/-- An operation that makes memory. -/
def makesB (o : Oper) : Bool := match o.op with
  | .alloc .. => true
  | .makeSlice .. => true
  | .box .. => true
  | .buildSlice .. => true
  | _ => false

/-- A maker's slot holds 'undef' in the walk; D: the makers so far, the last first. -/
def wpQD (P : Program) (ops : Array Oper) (w : World) (T : Act → List (Oper × (Value → World → Prop)) → Prop) : List Oper → Act → List (Oper × (Value → World → Prop)) → Prop
  | [], a, D => T a D
  | o :: rest, a, D =>
    (∃ v, Y P ops w o a (.quiet v) ∧ wpQD P ops w T rest (a.put o.dst v) D) ∨
    (∃ Ψ, makesB o = true ∧ Y P ops w o a (.maker Ψ) ∧ wpQD P ops w T rest (a.put o.dst undef) ((o, Ψ) :: D)) ∨
    (Y P ops w o a .skip ∧ wpQD P ops w T rest (a.put o.dst undef) D)

def putAll (a : Act) : List (Oper × (Value → World → Prop)) → List Value → Act
  | d :: D, u :: us => (putAll a D us).put d.1.dst u
  | _, _ => a
def Pairs : List (Oper × (Value → World → Prop)) → List Value → World → Prop
  | d :: D, u :: us, W => d.2 u W ∧ Pairs D us W
  | _, _, _ => True

/-- The walk with its findings named. -/
def wpQL (P : Program) (ops : Array Oper) (w : World) (T : Act → List (Oper × (Value → World → Prop)) → Prop) : List Oper → List Sp → Act → List (Oper × (Value → World → Prop)) → Prop
  | [], _, a, D => T a D
  | o :: rest, s :: ss, a, D => Y P ops w o a s ∧ (match s with
    | .inl v => wpQL P ops w T rest ss (a.put o.dst v) D
    | .inr (.inl Ψ) => makesB o = true ∧ wpQL P ops w T rest ss (a.put o.dst undef) ((o, Ψ) :: D)
    | .inr (.inr ()) => wpQL P ops w T rest ss (a.put o.dst undef) D)
  | _ :: _, [], _, _ => False

theorem named {T : Act → List (Oper × (Value → World → Prop)) → Prop} : ∀ (l : List Oper) (a : Act) (D : List (Oper × (Value → World → Prop))), wpQD P ops w T l a D → ∃ ss : List Sp, ss.length = l.length ∧ wpQL P ops w T l ss a D
  | [], a, D, h => ⟨[], rfl, h⟩
  | o :: rest, a, D, h => by
    rcases h with ⟨v, hy, h⟩ | ⟨Ψ, hm, hy, h⟩ | ⟨hy, h⟩
    · obtain ⟨ss, hl, h⟩ := named rest _ _ h
      exact ⟨.quiet v :: ss, by simp [hl], hy, h⟩
    · obtain ⟨ss, hl, h⟩ := named rest _ _ h
      exact ⟨.maker Ψ :: ss, by simp [hl], hy, hm, h⟩
    · obtain ⟨ss, hl, h⟩ := named rest _ _ h
      exact ⟨.skip :: ss, by simp [hl], hy, h⟩

theorem Y_putAll {o : Oper} {s : Sp} (hso : ∀ cs b, o.op ≠ .select cs b) : ∀ (D : List (Oper × (Value → World → Prop))) (us : List Value) (a : Act), (∀ d ∈ D, d.1.apart ops o = true) → Y P ops w o a s → Y P ops w o (putAll a D us) s
  | [], _, _, _, h => h
  | _ :: _, [], _, _, h => h
  | d :: D, u :: us, a, hd, h => by
    obtain ⟨p1, _, _⟩ := Oper.apart_spec (hd d (by simp))
    have ih := Y_putAll hso D us a (fun d' hd' => hd d' (by simp [hd'])) h
    exact Y_same (execOp_put o hso _ d.1.dst u p1) (wanted_put o _ d.1.dst u p1) ih

theorem putAll_put {o : Oper} (v : Value) : ∀ (D : List (Oper × (Value → World → Prop))) (us : List Value) (a : Act), (∀ d ∈ D, d.1.apart ops o = true) → (putAll a D us).put o.dst v = putAll (a.put o.dst v) D us
  | [], _, _, _ => rfl
  | _ :: _, [], _, _ => rfl
  | d :: D, u :: us, a, hd => by
    obtain ⟨_, p2, _⟩ := Oper.apart_spec (hd d (by simp))
    have ih := putAll_put v D us a (fun d' hd' => hd d' (by simp [hd']))
    show ((putAll a D us).put d.1.dst u).put o.dst v = (putAll (a.put o.dst v) D us).put d.1.dst u
    rw [Act.put_comm _ u v p2, ih]

theorem put_put (a : Act) (x : Option Tmp) (u v : Value) : (a.put x u).put x v = a.put x v := by
  cases x with
  | none => rfl
  | some d => simp [Act.put]

theorem lexN {T : Act → List (Oper × (Value → World → Prop)) → Prop} (hs : Region.noSelect ops = true) (hsuf : ∀ j oj, ops[j]? = some oj → m ≤ j → ∀ k, k < m → ∃ e ∈ oj.after, Region.binds md e = true ∧ e.on = k) :
    ∀ (l : List Oper) (ss : List Sp) (k : Nat) (listed : Array Bool) (a : Act) (D : List (Oper × (Value → World → Prop))) (us : List Value) (κ : World → Prop), (∀ j, j < l.length → ss[j]? = some (sp (k + j))) → k + l.length = m → Unl m listed = l.length →
      (∀ j, j < l.length → l[j]? = ops[k + j]?) → lexPre md ops l.length k listed = true → (∀ d ∈ D, ∀ o ∈ l, d.1.apart ops o = true) → l.Pairwise (fun o o' => makesB o = true → o.apart ops o' = true) → us.length = D.length → (∀ W, κ W → Pairs D us W) → wpQL P ops w T l ss a D →
      N P md ops w m sp (fun L b κ' => L = setFrom l.length k listed ∧ ∃ a' D' us', b = putAll a' D' us' ∧ us'.length = D'.length ∧ (∀ W, κ' W → Pairs D' us' W) ∧ T a' D') l.length listed (putAll a D us) κ
  | [], ss, k, listed, a, D, us, κ, _, _, _, _, _, _, _, hlen, hκ, h => ⟨rfl, a, D, us, rfl, hlen, hκ, h⟩
  | o :: l, [], k, listed, a, D, us, κ, _, _, _, _, _, _, _, _, _, h => h.elim
  | o :: l, s :: ss, k, listed, a, D, us, κ, hsp, hk, hu, hl, hB, hap, hpw, hlen, hκ, h => by
    have h0 : ops[k]? = some o := by simpa using (hl 0 (by simp)).symm
    have hs0 : s = sp k := by have := hsp 0 (by simp); simpa using this
    simp only [List.length_cons, lexPre, Bool.and_eq_true] at hB
    obtain ⟨⟨hr, hf⟩, hB'⟩ := hB
    have hr' : k ∈ Region.ready md ops listed := by simpa using hr
    have hkm : k < m := by simp at hk; omega
    have hu' := unl_set (m := m) (i := k) hkm (mem_ready.1 hr').1
    have hx : Unl m (listed.setIfInBounds k true) = l.length := by simp only [List.length_cons] at hu; omega
    have hn : k + 1 + l.length = m := by simp only [List.length_cons] at hk; omega
    have hj : ∀ j, j < l.length → l[j]? = ops[k + 1 + j]? := fun j hj => by
      have := hl (j + 1) (by simp; omega)
      simpa [Nat.add_assoc, Nat.add_comm 1 j] using this
    have hsp' : ∀ j, j < l.length → ss[j]? = some (sp (k + 1 + j)) := fun j hj => by
      have := hsp (j + 1) (by simp; omega)
      simpa [Nat.add_assoc, Nat.add_comm 1 j] using this
    have hap' : ∀ d ∈ D, ∀ o' ∈ l, d.1.apart ops o' = true := fun d hd o' ho' => hap d hd o' (by simp [ho'])
    have hapo : ∀ d ∈ D, d.1.apart ops o = true := fun d hd => hap d hd o (by simp)
    obtain ⟨hpo, hpw'⟩ := List.pairwise_cons.1 hpw
    have hso := fun cs b => Region.noSelect_spec hs k o cs b h0
    obtain ⟨hy, hrest⟩ := h
    have hR : ∀ (L : Array Bool) (b : Act) (κ₁ κ₂ : World → Prop), (∀ W, κ₂ W → κ₁ W) → (L = setFrom (l.length + 1) k listed ∧ ∃ a' D' us', b = putAll a' D' us' ∧ us'.length = D'.length ∧ (∀ W, κ₁ W → Pairs D' us' W) ∧ T a' D') → (L = setFrom (l.length + 1) k listed ∧ ∃ a' D' us', b = putAll a' D' us' ∧ us'.length = D'.length ∧ (∀ W, κ₂ W → Pairs D' us' W) ∧ T a' D') := by
      rintro L b κ₁ κ₂ hk12 ⟨e, a', D', us', h1, h2, h3, h4⟩
      exact ⟨e, a', D', us', h1, h2, fun W hW => h3 W (hk12 W hW), h4⟩
    refine N_first hR h0 hkm (Region.noSelect_spec hs) hsuf l.length listed (putAll a D us) κ (by simpa using hu) (Region.free_spec h0 hf) hr' (by rw [← hs0]; exact Y_putAll hso D us a hapo hy) (fun u hout => ?_)
    rw [← hs0] at hout ⊢
    rcases s with v | Ψ | ⟨⟩
    ·
      obtain rfl : u = v := hout
      rw [putAll_put u D us a hapo]
      exact lexN hs hsuf l ss (k + 1) _ _ D us _ hsp' hn hx hj hB' hap' hpw' hlen (fun W hW => hκ W hW.1) hrest
    ·
      have e : (putAll a D us).put o.dst u = putAll (a.put o.dst undef) ((o, Ψ) :: D) (u :: us) := by
        show _ = (putAll (a.put o.dst undef) D us).put o.dst u
        rw [← putAll_put undef D us a hapo, put_put]
      rw [e]
      exact lexN hs hsuf l ss (k + 1) _ _ ((o, Ψ) :: D) (u :: us) _ hsp' hn hx hj hB'
        (fun d hd o' ho' => by
          rcases List.mem_cons.1 hd with rfl | hd
          · exact hpo o' ho' hrest.1
          · exact hap' d hd o' ho') hpw' (by simp [hlen]) (fun W hW => ⟨hW.2, hκ W hW.1⟩) hrest.2
    ·
      obtain rfl : u = undef := hout
      rw [putAll_put undef D us a hapo]
      exact lexN hs hsuf l ss (k + 1) _ _ D us _ hsp' hn hx hj hB' hap' hpw' hlen (fun W hW => hκ W hW.1) hrest

/-- Each maker stands apart from every operation behind it. -/
def sepB (ops : Array Oper) : List Oper → Bool
  | [] => true
  | o :: l => (!makesB o || l.all fun o' => o.apart ops o') && sepB ops l
theorem sep_of : ∀ (l : List Oper), sepB ops l = true → l.Pairwise (fun o o' => makesB o = true → o.apart ops o' = true)
  | [], _ => List.Pairwise.nil
  | o :: l, h => by
    simp only [sepB, Bool.and_eq_true, Bool.or_eq_true, Bool.not_eq_true', List.all_eq_true] at h
    refine List.pairwise_cons.2 ⟨fun o' ho' hm => ?_, sep_of l h.2⟩
    rcases h.1 with h1 | h1
    · rw [hm] at h1; cases h1
    · exact h1 o' ho'

/-- THE REGION: its first m operations quiet or makers; the others one behind the other. -/
theorem wp_region_makers {id : Nat} {Q : Exit → Act → World → Prop} {a : Act} {w : World} {l : List Oper} (m : Nat) (hm : P.follows .mixedOrders = true)
    (hB : (decide (m ≤ l.length) && Region.noSelect l.toArray && sufB .any l.toArray m && lexPre .any l.toArray m 0 (Array.replicate l.length false) && sepB l.toArray (l.take m)) = true)
    (hF : forced .any l.toArray (l.length - m) m (setFrom m 0 (Array.replicate l.length false)) = true)
    (h : wpQD P l.toArray w (fun a' D => ∀ us : List Value, us.length = D.length → ∀ W, Below w.heap.size w W → Pairs D us W → wpList P l.toArray Q (l.drop m) (putAll a' D us) W) (l.take m) a []) :
    (Code.region id l.toArray true).wp P Q a w := by
  simp only [Bool.and_eq_true, decide_eq_true_eq] at hB
  obtain ⟨⟨⟨⟨hle, hns⟩, hsb⟩, hlex⟩, hsep⟩ := hB
  refine wp_region_any hm ?_
  have hlen : (l.take m).length = m := by rw [List.length_take]; omega
  obtain ⟨ss, hss, hql⟩ := named _ _ _ h
  have key := lexN (P := P) (w := w) (md := .any) (m := m) (sp := fun j => ss[j]?.getD .skip) hns (suf_of hsb) (l.take m) ss 0 (Array.replicate l.length false) a [] [] (fun _ => True)
    (fun j hj => by rw [Nat.zero_add, List.getElem?_eq_getElem (by omega)]; rfl) (by rw [hlen]; omega) (by rw [hlen]; exact unl_all m _ hle) (fun j hj => by rw [hlen] at hj; simp [hj]) (by rw [hlen]; exact hlex) (fun d hd => by cases hd) (sep_of _ hsep) rfl (fun _ _ => trivial) hql
  rw [hlen] at key
  have hsize : l.toArray.size = m + (l.length - m) := by simp; omega
  rw [hsize, show Array.replicate (m + (l.length - m)) false = Array.replicate l.length false by congr 1; omega]
  refine wpAny_of_N (w := w) (m := m) (fun L b κ W hW hk hRR => ?_) m _ _ _ _ (fun _ _ _ _ => trivial) (⟨rfl, rfl, rfl, Nat.le_refl _, fun _ _ => rfl⟩ : Below w.heap.size w { w with drawn := w.drawn + 1 }) trivial key
  obtain ⟨hL, a', D', us', rfl, hul, hp, hT⟩ := hRR
  rw [hL]
  have := wpAny_of_list (P := P) (Q := Q) (md := .any) (ops := l.toArray) (l.drop m) m (setFrom m 0 (Array.replicate l.length false)) (putAll a' D' us') W (fun j => by simp [List.getElem?_drop]) (by rw [List.length_drop]; exact hF) (hT us' hul W hW (hp W hk))
  rw [List.length_drop] at this
  exact this

/-! ### Steps of the walk -/

theorem qd_step {T : Act → List (Oper × (Value → World → Prop)) → Prop} {o : Oper} {rest : List Oper} {a : Act} {D : List (Oper × (Value → World → Prop))}
    (h : ∀ K : Act → Prop, (∀ a, wpQD P ops w T rest a D → K a) → if Region.wanted o (yielded ops a.tmps) = true then ∃ v, (∀ p : Regrown, sUpon P (Sort.grow (redrawn w p.d) p.os) v ((execOp a.eval o).run P (Sort.grow (redrawn w p.d) p.os))) ∧ K (a.put o.dst v) else K (a.put o.dst undef)) :
    wpQD P ops w T (o :: rest) a D := by
  have h' := h _ (fun _ h => h)
  by_cases hw : Region.wanted o (yielded ops a.tmps) = true
  · rw [if_pos hw] at h'
    obtain ⟨v, h1, h2⟩ := h'
    refine .inl ⟨v, ⟨hw, fun W hW => ?_⟩, h2⟩
    obtain ⟨p, rfl⟩ := regrown_of_below hW
    exact h1 p
  · rw [if_neg hw] at h'
    exact .inr (.inr ⟨Bool.eq_false_iff.2 hw, h'⟩)

theorem qd_maker {T : Act → List (Oper × (Value → World → Prop)) → Prop} {o : Oper} {rest : List Oper} {a : Act} {D : List (Oper × (Value → World → Prop))} (Ψ : Value → World → Prop) (hm : makesB o = true)
    (hw : Region.wanted o (yielded ops a.tmps) = true) (hl : ∀ u, Lasts (Ψ u)) (hk : ∀ p : Regrown, mUpon (Sort.grow (redrawn w p.d) p.os) Ψ ((execOp a.eval o).run P (Sort.grow (redrawn w p.d) p.os)))
    (h : wpQD P ops w T rest (a.put o.dst undef) ((o, Ψ) :: D)) : wpQD P ops w T (o :: rest) a D := by
  refine .inr (.inl ⟨Ψ, hm, ⟨hw, hl, fun W hW => ?_⟩, h⟩)
  obtain ⟨p, rfl⟩ := regrown_of_below hW
  exact hk p

/-- What an alloc leaves. -/
def newBlock (w : World) (cs : Array Value) (t : TypeId) (u : Value) (W : World) : Prop := ∃ g, u = .pointer (some ⟨g, 0, none⟩) ∧ w.heap.size ≤ g ∧ W.heap[g]? = some (.cells cs t (0, 0))
theorem newBlock_lasts (w : World) (cs : Array Value) (t : TypeId) (u : Value) : Lasts (newBlock w cs t u) := by
  rintro W W' hb ⟨g, h1, h2, h3⟩
  refine ⟨g, h1, h2, (hb.block g ?_).trans h3⟩
  rcases Nat.lt_or_ge g W.heap.size with h | h
  · exact h
  · rw [Array.getElem?_eq_none h] at h3; cases h3
theorem newBlock_alloc (w : World) (cs : Array Value) (t : TypeId) (p : Regrown) : mUpon (Sort.grow (redrawn w p.d) p.os) (newBlock w cs t) (.ok (.value (.pointer (some ⟨(Sort.grow (redrawn w p.d) p.os).heap.size, 0, none⟩))) ((Sort.grow (redrawn w p.d) p.os).alloc (.cells cs t))) :=
  ⟨(Below.refl _ _).alloc (Nat.le_refl _) _, _, rfl, (below_regrown w p.d p.os).size, heap_alloc_new _ _⟩

theorem newBlock_alloc' (w : World) (cs : Array Value) (t : TypeId) (p : Regrown) : Below ((redrawn w p.d).heap.size + p.os.size) (Sort.grow (redrawn w p.d) p.os) ((Sort.grow (redrawn w p.d) p.os).alloc (.cells cs t)) ∧
    newBlock w cs t (.pointer (some ⟨(redrawn w p.d).heap.size + p.os.size, 0, none⟩)) ((Sort.grow (redrawn w p.d) p.os).alloc (.cells cs t)) := by
  have e : (Sort.grow (redrawn w p.d) p.os).heap.size = (redrawn w p.d).heap.size + p.os.size := by simp [Sort.grow]
  rw [← e]
  exact newBlock_alloc w cs t p

end
end Go.Proofs.Qxb6612460aGreatFmt
