import Derived.Test.Qxb6612460aGreatFmtNewP
namespace Go.Proofs.Qxb6612460aGreatFmt
open Go Go.RowKit

/-- A class of worlds that one may come to. -/
structure Cls where
  C : World → World → Prop
  refl : ∀ w, C w w
  trans : ∀ {a c d}, C a c → C c d → C a d
  drawn : ∀ w : World, C w { w with drawn := w.drawn + 1 }
/-- What lasts in the class. -/
def LastsC (S : Cls) (κ : World → Prop) : Prop := ∀ W W', S.C W W' → κ W → κ W'
/-- A world of the class. -/
structure InC (S : Cls) (w : World) where
  W : World
  only : S.C w W

namespace MixC
open Mix (Kd isVal valAt valAt_of slot slot_put slot_self)

def makes (S : Cls) (P : Program) (W : World) (Θ : Value → Prop) (Ψ : Value → World → Prop) : Result Next → Prop
  | .ok (.value u) w' => S.C W w' ∧ Θ u ∧ Ψ u w'
  | .ok (.enter f args) w' => w' = W ∧ Calls P f args W (fun e w'' => ∃ u, e = .returned u ∧ S.C W w'' ∧ Θ u ∧ Ψ u w'')
  | _ => False
section
variable (S : Cls) (P : Program) (md : Region.Mode) (ops : Array Oper) (w : World) (kd : Nat → Kd) (Q : Exit → Act → World → Prop)

def Know (listed : Array Bool) (a : Act) (W : World) : Prop :=
  ∀ i o Θ Ψ deps, ops[i]? = some o → listed.getD i false = true → kd i = .mk Θ Ψ deps → Ψ (slot a o.dst) W
def dk (a : Act) (i0 : Nat) (W : World) : Prop := ∀ o Θ Ψ deps, ops[i0]? = some o → kd i0 = .mk Θ Ψ deps → Ψ (slot a o.dst) W
def holdsK (listed : Array Bool) (a : Act) : Option (World → Prop) → World → Prop
  | none, W => S.C w W ∧ Know ops kd listed a W
  | some Φ, W => Φ W
def okS (listed : Array Bool) (a : Act) (κ : Option (World → Prop)) (o : Oper) : Kd → Prop
  | none => Region.wanted o (yielded ops a.tmps) = true → κ = none ∧ ∀ W, S.C w W → isVal W (valAt P w o a) ((execOp a.eval o).run P W)
  | some none => Region.wanted o (yielded ops a.tmps) = true → ∀ W, isVal W (valAt P w o a) ((execOp a.eval o).run P W)
  | some (some (.inl (Θ, Ψ, deps))) => Region.wanted o (yielded ops a.tmps) = true ∧ κ = none ∧ (∃ u, Θ u) ∧ ∀ W, S.C w W → (∀ i0 ∈ deps, dk ops kd a i0 W) → makes S P W Θ Ψ ((execOp a.eval o).run P W)
  | some (some (.inr ())) => Region.wanted o (yielded ops a.tmps) = true ∧ ∀ W, holdsK S ops w kd listed a κ W → ∃ W', (execOp a.eval o).run P W = .ok .skip W'
def outS (listed : Array Bool) (a : Act) (κ : Option (World → Prop)) (o : Oper) : Kd → Value → Option (World → Prop) → Prop
  | none, u, κ' => u = (if Region.wanted o (yielded ops a.tmps) = true then valAt P w o a else undef) ∧ κ' = κ
  | some none, u, κ' => u = (if Region.wanted o (yielded ops a.tmps) = true then valAt P w o a else undef) ∧ κ' = κ
  | some (some (.inl (Θ, _, _))), u, κ' => Θ u ∧ κ' = κ
  | some (some (.inr ())), u, κ' => u = undef ∧ κ' = some (fun W' => ∃ W, holdsK S ops w kd listed a κ W ∧ (execOp a.eval o).run P W = .ok .skip W')
def N : Nat → Array Bool → Act → Option (World → Prop) → Prop
  | 0, listed, a, κ => Region.ready md ops listed = [] ∧ ∀ W, holdsK S ops w kd listed a κ W → Q .normal a W
  | fuel + 1, listed, a, κ => Region.ready md ops listed ≠ [] ∧ ∀ i ∈ Region.ready md ops listed, ∃ o, ops[i]? = some o ∧ okS S P ops w kd listed a κ o (kd i) ∧
      ∀ u κ', outS S P ops w kd listed a κ o (kd i) u κ' → N fuel (listed.setIfInBounds i true) (a.put o.dst u) κ'
def Closed (listed : Array Bool) : Prop := ∀ (j : Nat) oj, ops[j]? = some oj → listed.getD j false = true → ∀ e ∈ oj.after, Region.binds md e = true → listed.getD e.on false = true

structure Static : Prop where
  sel : Region.noSelect ops = true
  dst : ∀ (i j : Nat) oi oj d, ops[i]? = some oi → ops[j]? = some oj → i ≠ j → oi.dst = some d → oj.dst ≠ some d
  dep : ∀ (j : Nat) oj Θ Ψ deps, ops[j]? = some oj → kd j = .mk Θ Ψ deps → ∀ i0 ∈ deps, ∃ e ∈ oj.after, Region.binds md e = true ∧ e.on = i0
  wrs : ∀ (listed : Array Bool), Closed md ops listed → ∀ (j : Nat), kd j = .wr → j ∈ Region.ready md ops listed → ∀ (i : Nat), i ∈ Region.ready md ops listed → i ≠ j → kd i = .pur
end

section
variable {S : Cls} {P : Program} {md : Region.Mode} {ops : Array Oper} {w : World} {kd : Nat → Kd} {Q : Exit → Act → World → Prop}

theorem unlisted {listed : Array Bool} {i : Nat} (h : listed.getD i true = false) : listed.getD i false = false := by
  rcases Nat.lt_or_ge i listed.size with h' | h'
  · simp [h'] at h ⊢; exact h
  · simp [Array.getElem?_eq_none h']
theorem getD_set_self {listed : Array Bool} {i : Nat} (h : listed.getD i true = false) : (listed.setIfInBounds i true).getD i false = true := by
  have : i < listed.size := by
    rcases Nat.lt_or_ge i listed.size with h' | h'
    · exact h'
    · rw [Array.getD_eq_getD_getElem?, Array.getElem?_eq_none h'] at h; cases h
  simp [this]

theorem closed_set {listed : Array Bool} (hc : Closed md ops listed) {i : Nat} (hr : i ∈ Region.ready md ops listed) : Closed md ops (listed.setIfInBounds i true) := by
  intro j oj hoj hl e he hb
  obtain ⟨h0, o, ho, hall⟩ := mem_ready.1 hr
  by_cases hji : j = i
  · subst hji
    rw [hoj] at ho; cases ho
    exact getD_set_true (hall e he hb)
  · rw [getD_set_ne false (Ne.symm hji)] at hl
    exact getD_set_true (hc j oj hoj hl e he hb)

theorem know_set (hS : Static md ops kd) {listed : Array Bool} {a : Act} {W : World} {i : Nat} {oi : Oper} {u : Value} (hi : ops[i]? = some oi) (hk : ∀ Θ Ψ deps, kd i ≠ .mk Θ Ψ deps) :
    Know ops kd (listed.setIfInBounds i true) (a.put oi.dst u) W ↔ Know ops kd listed a W := by
  have sl : ∀ (j : Nat) oj, ops[j]? = some oj → j ≠ i → slot (a.put oi.dst u) oj.dst = slot a oj.dst := fun j oj hoj hji => slot_put (fun t ht => hS.dst i j oi oj t hi hoj (Ne.symm hji) ht)
  constructor
  · intro h j oj Θ Ψ deps hoj hl hkd
    have hji : j ≠ i := fun e => hk Θ Ψ deps (e ▸ hkd)
    have := h j oj Θ Ψ deps hoj (by rw [getD_set_ne false (Ne.symm hji)]; exact hl) hkd
    rwa [sl j oj hoj hji] at this
  · intro h j oj Θ Ψ deps hoj hl hkd
    have hji : j ≠ i := fun e => hk Θ Ψ deps (e ▸ hkd)
    rw [getD_set_ne false (Ne.symm hji)] at hl
    rw [sl j oj hoj hji]
    exact h j oj Θ Ψ deps hoj hl hkd
theorem holdsK_set (hS : Static md ops kd) {listed : Array Bool} {a : Act} {W : World} {i : Nat} {oi : Oper} {u : Value} (hi : ops[i]? = some oi) (hk : ∀ Θ Ψ deps, kd i ≠ .mk Θ Ψ deps) (κ : Option (World → Prop)) :
    holdsK S ops w kd (listed.setIfInBounds i true) (a.put oi.dst u) κ W ↔ holdsK S ops w kd listed a κ W := by
  cases κ with
  | none => simp only [holdsK, know_set hS hi hk]
  | some Φ => exact Iff.rfl

/-- Operation j stands apart from i: its step is the same behind i. -/
theorem okS_move (hS : Static md ops kd) {listed : Array Bool} {a : Act} {κ : Option (World → Prop)} {i j : Nat} {oi oj : Oper} {u : Value} (hi : ops[i]? = some oi) (hj : ops[j]? = some oj) (hnot : ∀ e ∈ oj.after, Region.binds md e = true → e.on ≠ i)
    (hap : ∀ d, oi.dst = some d → d ∉ oj.looksAt ops) (hw : kd j = .wr → ∀ Θ Ψ deps, kd i ≠ .mk Θ Ψ deps) :
    okS S P ops w kd (listed.setIfInBounds i true) (a.put oi.dst u) κ oj (kd j) ↔ okS S P ops w kd listed a κ oj (kd j) := by
  have e1 := execOp_put oj (fun cs b => Region.noSelect_spec hS.sel j oj cs b hj) a oi.dst u hap
  have e2 := wanted_put oj a oi.dst u hap
  have e3 : valAt P w oj (a.put oi.dst u) = valAt P w oj a := by unfold valAt; rw [e1]
  rcases hk : kd j with _ | _ | ⟨Θ, Ψ, deps⟩ | ⟨⟩
  · simp only [okS, e1, e2, e3]
  · simp only [okS, e1, e2, e3]
  ·
    have e4 : ∀ W, (∀ i0 ∈ deps, dk ops kd (a.put oi.dst u) i0 W) ↔ (∀ i0 ∈ deps, dk ops kd a i0 W) := fun W => by
      refine forall_congr' fun i0 => forall_congr' fun hi0 => ?_
      have hne : i0 ≠ i := by
        obtain ⟨e, he, hb, hon⟩ := hS.dep j oj Θ Ψ deps hj hk i0 hi0
        exact fun h => hnot e he hb (hon.trans h)
      unfold dk
      refine forall_congr' fun o => forall_congr' fun _ => forall_congr' fun _ => forall_congr' fun _ => forall_congr' fun ho => forall_congr' fun _ => ?_
      rw [slot_put (fun t ht => hS.dst i i0 oi o t hi ho (Ne.symm hne) ht)]
    simp only [okS, e1, e2, e4]
  · simp only [okS, e1, e2, holdsK_set hS hi (hw hk)]
theorem outS_move (hS : Static md ops kd) {listed : Array Bool} {a : Act} {κ κ' : Option (World → Prop)} {i j : Nat} {oi oj : Oper} {u y : Value} (hi : ops[i]? = some oi) (hj : ops[j]? = some oj)
    (hap : ∀ d, oi.dst = some d → d ∉ oj.looksAt ops) (hw : kd j = .wr → ∀ Θ Ψ deps, kd i ≠ .mk Θ Ψ deps) :
    outS S P ops w kd (listed.setIfInBounds i true) (a.put oi.dst u) κ oj (kd j) y κ' ↔ outS S P ops w kd listed a κ oj (kd j) y κ' := by
  have e1 := execOp_put oj (fun cs b => Region.noSelect_spec hS.sel j oj cs b hj) a oi.dst u hap
  have e2 := wanted_put oj a oi.dst u hap
  have e3 : valAt P w oj (a.put oi.dst u) = valAt P w oj a := by unfold valAt; rw [e1]
  rcases hk : kd j with _ | _ | ⟨Θ, Ψ, deps⟩ | ⟨⟩
  · simp only [outS, e2, e3]
  · simp only [outS, e2, e3]
  · simp only [outS]
  · simp only [outS, e1, holdsK_set hS hi (hw hk)]

theorem out_some {listed : Array Bool} {a : Act} {κ : Option (World → Prop)} {o : Oper} {k : Kd} (h : okS S P ops w kd listed a κ o k) : ∃ u κ', outS S P ops w kd listed a κ o k u κ' := by
  rcases k with _ | _ | ⟨Θ, Ψ, deps⟩ | ⟨⟩
  · exact ⟨_, _, rfl, rfl⟩
  · exact ⟨_, _, rfl, rfl⟩
  · obtain ⟨u, hu⟩ := h.2.2.1; exact ⟨u, κ, hu, rfl⟩
  · exact ⟨_, _, rfl, rfl⟩

theorem N_first (hS : Static md ops kd) {i : Nat} {oi : Oper} (hi : ops[i]? = some oi) :
    ∀ (fuel : Nat) (listed : Array Bool) (a : Act) (κ : Option (World → Prop)), Unl ops.size listed = fuel + 1 → Closed md ops listed →
      (∀ j oj, ops[j]? = some oj → j ≠ i → listed.getD j true = false → (∀ e ∈ oj.after, Region.binds md e = true → e.on ≠ i) → oi.apart ops oj = true) →
      i ∈ Region.ready md ops listed → okS S P ops w kd listed a κ oi (kd i) →
      (∀ u κ', outS S P ops w kd listed a κ oi (kd i) u κ' → N S P md ops w kd Q fuel (listed.setIfInBounds i true) (a.put oi.dst u) κ') → N S P md ops w kd Q (fuel + 1) listed a κ := by
  have small : ∀ (listed : Array Bool) (j : Nat), j ∈ Region.ready md ops listed → j < ops.size := fun listed j hj => by
    obtain ⟨_, o, ho, _⟩ := mem_ready.1 hj
    exact (Array.getElem?_eq_some_iff.1 ho).1
  intro fuel
  induction fuel with
  | zero =>
    intro listed a κ hu _ _ hr hok H
    refine ⟨fun h => (by rw [h] at hr; cases hr), fun j hj => ?_⟩
    by_cases hji : j = i
    · subst hji; exact ⟨oi, hi, hok, H⟩
    · exfalso
      have h1 := unl_set (m := ops.size) (small listed i hr) (mem_ready.1 hr).1
      have h2 := unl_zero (m := ops.size) (listed := listed.setIfInBounds i true) (by omega) j (small listed j hj)
      rw [getD_set_ne true (Ne.symm hji)] at h2
      rw [(mem_ready.1 hj).1] at h2
      cases h2
  | succ fuel ih =>
    intro listed a κ hu hcl hfree hr hok H
    refine ⟨fun h => (by rw [h] at hr; cases hr), fun j hj => ?_⟩
    by_cases hji : j = i
    · subst hji; exact ⟨oi, hi, hok, H⟩
    · obtain ⟨hjun, oj, hoj, hall⟩ := mem_ready.1 hj
      have hiun := (mem_ready.1 hr).1
      have hnot : ∀ e ∈ oj.after, Region.binds md e = true → e.on ≠ i := fun e he hb heq => by
        have h1 := hall e he hb
        rw [heq, unlisted hiun] at h1
        cases h1
      have hnoti : ∀ e ∈ oi.after, Region.binds md e = true → e.on ≠ j := fun e he hb heq => by
        obtain ⟨_, o, ho, hall'⟩ := mem_ready.1 hr
        rw [hi] at ho; cases ho
        have h1 := hall' e he hb
        rw [heq, unlisted hjun] at h1
        cases h1
      obtain ⟨p1, p2, p3⟩ := Oper.apart_spec (hfree j oj hoj hji hjun hnot)
      have hwj : kd j = .wr → kd i = .pur := fun h => hS.wrs listed hcl j h hj i hr (Ne.symm hji)
      have hwi : kd i = .wr → kd j = .pur := fun h => hS.wrs listed hcl i h hr j hj hji
      have hwj' : kd j = .wr → ∀ Θ Ψ deps, kd i ≠ .mk Θ Ψ deps := fun h Θ Ψ deps e => by rw [hwj h] at e; cases e
      have hwi' : kd i = .wr → ∀ Θ Ψ deps, kd j ≠ .mk Θ Ψ deps := fun h Θ Ψ deps e => by rw [hwi h] at e; cases e
      -- the step of j behind i, for each outcome of i
      have key : ∀ u κ', outS S P ops w kd listed a κ oi (kd i) u κ' → okS S P ops w kd listed a κ' oj (kd j) ∧ ∀ y κ'', outS S P ops w kd listed a κ' oj (kd j) y κ'' → N S P md ops w kd Q fuel ((listed.setIfInBounds i true).setIfInBounds j true) ((a.put oi.dst u).put oj.dst y) κ'' := by
        intro u κ' ho
        obtain ⟨oj', hoj', hokj, hn⟩ := (H u κ' ho).2 j (ready_mono hj hji)
        rw [hoj] at hoj'
        cases hoj'
        refine ⟨(okS_move hS hi hoj hnot p1 hwj').1 hokj, fun y κ'' hy => hn y κ'' ((outS_move hS hi hoj p1 hwj').2 hy)⟩
      obtain ⟨u0, κ0, ho0⟩ := out_some hok
      have hokj : okS S P ops w kd listed a κ oj (kd j) := by
        have h := (key u0 κ0 ho0).1
        rcases hki : kd i with _ | _ | ⟨Θ, Ψ, deps⟩ | ⟨⟩
        · rw [hki] at ho0; obtain ⟨_, rfl⟩ := ho0; exact h
        · rw [hki] at ho0; obtain ⟨_, rfl⟩ := ho0; exact h
        · rw [hki] at ho0; obtain ⟨_, rfl⟩ := ho0; exact h
        · rw [hwi hki] at h ⊢; exact h
      refine ⟨oj, hoj, hokj, fun y κj hy => ?_⟩
      have hfree' : ∀ k ok, ops[k]? = some ok → k ≠ i → (listed.setIfInBounds j true).getD k true = false →
          (∀ e ∈ ok.after, Region.binds md e = true → e.on ≠ i) → oi.apart ops ok = true := fun k ok hk hki hun hno => by
        refine hfree k ok hk hki ?_ hno
        by_cases hjk : j = k
        · subst hjk; exact hjun
        · rw [getD_set_ne true hjk] at hun; exact hun
      have hu' : Unl ops.size (listed.setIfInBounds j true) = fuel + 1 := by
        have := unl_set (m := ops.size) (small listed j hj) hjun
        omega
      -- i's step behind j
      have hoki : okS S P ops w kd (listed.setIfInBounds j true) (a.put oj.dst y) κj oi (kd i) := by
        refine (okS_move hS hoj hi hnoti p3 hwi').2 ?_
        rcases hkj : kd j with _ | _ | ⟨Θ, Ψ, deps⟩ | ⟨⟩
        · rw [hkj] at hy; obtain ⟨_, rfl⟩ := hy; exact hok
        · rw [hkj] at hy; obtain ⟨_, rfl⟩ := hy; exact hok
        · rw [hkj] at hy; obtain ⟨_, rfl⟩ := hy; exact hok
        · rw [hwj hkj] at hok ⊢; exact hok
      refine ih (listed.setIfInBounds j true) (a.put oj.dst y) κj hu' (closed_set hcl hj) hfree' (ready_mono hr (Ne.symm hji)) hoki (fun u κ'' hout => ?_)
      rw [outS_move hS hoj hi p3 hwi'] at hout
      -- the same two outcomes in the other order
      have hfin : ∃ κi, outS S P ops w kd listed a κ oi (kd i) u κi ∧ outS S P ops w kd listed a κi oj (kd j) y κ'' := by
        rcases hki : kd i with _ | _ | ⟨Θ, Ψ, deps⟩ | ⟨⟩
        ·
          rw [hki] at hout
          obtain ⟨e1, rfl⟩ := hout
          refine ⟨κ, ⟨e1, rfl⟩, ?_⟩
          exact hy
        ·
          rw [hki] at hout
          obtain ⟨e1, rfl⟩ := hout
          refine ⟨κ, ⟨e1, rfl⟩, ?_⟩
          exact hy
        ·
          rw [hki] at hout
          obtain ⟨e1, rfl⟩ := hout
          refine ⟨κ, ⟨e1, rfl⟩, ?_⟩
          exact hy
        ·
          have hj' := hwi hki
          rw [hj'] at hy ⊢
          obtain ⟨e1, rfl⟩ := hy
          rw [hki] at hout
          obtain ⟨e2, e3⟩ := hout
          exact ⟨κ'', ⟨e2, e3⟩, e1, rfl⟩
      obtain ⟨κi, h1, h2⟩ := hfin
      have h3 := (key u κi h1).2 y κ'' h2
      rw [Array.setIfInBounds_comm _ _ (Ne.symm hji), Act.put_comm a u y p2] at h3
      exact h3

/-- What a maker must be, besides. -/
structure Makers (S : Cls) (ops : Array Oper) (kd : Nat → Kd) (n : Nat) : Prop where
  lasts : ∀ (i : Nat) Θ Ψ deps, kd i = .mk Θ Ψ deps → ∀ u, LastsC S (Ψ u)
  dst : ∀ (i : Nat) o Θ Ψ deps, ops[i]? = some o → kd i = .mk Θ Ψ deps → ∃ d, o.dst = some d ∧ d < n

theorem put_size (a : Act) (d : Option Tmp) (u : Value) : (a.put d u).tmps.size = a.tmps.size := by
  cases d <;> simp [Act.put]

theorem know_mk (hS : Static md ops kd) {n : Nat} (hM : Makers S ops kd n) {listed : Array Bool} {a : Act} (hn : a.tmps.size = n) {W W' : World} {i : Nat} {oi : Oper} {u : Value} (hi : ops[i]? = some oi) {Θ : Value → Prop} {Ψ : Value → World → Prop} {deps : List Nat} (hk : kd i = .mk Θ Ψ deps)
    (hb : S.C W W') (hp : Ψ u W') (h : Know ops kd listed a W) : Know ops kd (listed.setIfInBounds i true) (a.put oi.dst u) W' := by
  intro j oj Θ' Ψ' deps' hoj hl hkd
  by_cases hji : j = i
  · subst hji
    rw [hi] at hoj; cases hoj
    rw [hk] at hkd; cases hkd
    obtain ⟨d, hd, hlt⟩ := hM.dst j oi Θ Ψ deps hi hk
    rw [hd, slot_self (by rw [hn]; exact hlt)]
    exact hp
  · rw [getD_set_ne false (Ne.symm hji)] at hl
    rw [slot_put (fun t ht => hS.dst i j oi oj t hi hoj (Ne.symm hji) ht)]
    exact hM.lasts j Θ' Ψ' deps' hkd _ W W' hb (h j oj Θ' Ψ' deps' hoj hl hkd)

theorem wpAny_of_N (hS : Static md ops kd) {n : Nat} (hM : Makers S ops kd n) :
    ∀ (fuel : Nat) (listed : Array Bool) (a : Act) (κ : Option (World → Prop)) (W : World), a.tmps.size = n → holdsK S ops w kd listed a κ W → N S P md ops w kd Q fuel listed a κ → wpAny P md ops Q fuel listed a W
  | 0, listed, a, κ, W, _, hW, h => ⟨h.1, h.2 W hW⟩
  | fuel + 1, listed, a, κ, W, hn, hW, h => by
    refine ⟨fun h0 => absurd h0 h.1, fun i hi => ?_⟩
    obtain ⟨o, ho, hok, hN⟩ := h.2 i hi
    obtain ⟨hun, o', ho', hall⟩ := mem_ready.1 hi
    rw [ho] at ho'; cases ho'
    unfold wpOp
    rw [ho]
    show if Region.wanted o (yielded ops a.tmps) = true then _ else _
    have go : ∀ u κ' W', outS S P ops w kd listed a κ o (kd i) u κ' → holdsK S ops w kd (listed.setIfInBounds i true) (a.put o.dst u) κ' W' → wpAny P md ops Q fuel (listed.setIfInBounds i true) (a.put o.dst u) W' := fun u κ' W' hout hK =>
      wpAny_of_N hS hM fuel _ _ κ' W' (by rw [put_size]; exact hn) hK (hN u κ' hout)
    rcases hk : kd i with _ | _ | ⟨Θ, Ψ, deps⟩ | ⟨⟩
    ·
      have hkn : ∀ Θ Ψ deps, kd i ≠ .mk Θ Ψ deps := fun _ _ _ e => by rw [hk] at e; cases e
      rw [hk] at hok
      by_cases hw : Region.wanted o (yielded ops a.tmps) = true
      · rw [if_pos hw]
        obtain ⟨rfl, hv⟩ := hok hw
        have h3 := hv W hW.1
        have hK := go _ none W (by rw [hk]; exact ⟨by rw [if_pos hw], rfl⟩) ((holdsK_set hS ho hkn none).2 hW)
        refine .inl ?_
        unfold Oper.wp
        generalize (execOp a.eval o).run P W = r at *
        cases r with
        | ok nx w' =>
          cases nx <;> simp only [isVal] at h3 <;> simp only [Oper.upon]
          case value u => obtain ⟨e1, e2⟩ := h3; rw [e1, e2]; exact hK
          case skip => obtain ⟨e1, e2⟩ := h3; rw [e1, ← e2]; exact hK
        | halt x w' => simp only [isVal] at h3
      · rw [if_neg hw]
        exact go undef κ W (by rw [hk]; exact ⟨by rw [if_neg hw], rfl⟩) ((holdsK_set hS ho hkn κ).2 hW)
    ·
      have hkn : ∀ Θ Ψ deps, kd i ≠ .mk Θ Ψ deps := fun _ _ _ e => by rw [hk] at e; cases e
      rw [hk] at hok
      by_cases hw : Region.wanted o (yielded ops a.tmps) = true
      · rw [if_pos hw]
        have h3 := hok hw W
        have hK := go _ κ W (by rw [hk]; exact ⟨by rw [if_pos hw], rfl⟩) ((holdsK_set hS ho hkn κ).2 hW)
        refine .inl ?_
        unfold Oper.wp
        generalize (execOp a.eval o).run P W = r at *
        cases r with
        | ok nx w' =>
          cases nx <;> simp only [isVal] at h3 <;> simp only [Oper.upon]
          case value u => obtain ⟨e1, e2⟩ := h3; rw [e1, e2]; exact hK
          case skip => obtain ⟨e1, e2⟩ := h3; rw [e1, ← e2]; exact hK
        | halt x w' => simp only [isVal] at h3
      · rw [if_neg hw]
        exact go undef κ W (by rw [hk]; exact ⟨by rw [if_neg hw], rfl⟩) ((holdsK_set hS ho hkn κ).2 hW)
    ·
      rw [hk] at hok
      obtain ⟨hw, rfl, _, hm⟩ := hok
      rw [if_pos hw]
      have h3 := hm W hW.1 (fun i0 hi0 oo Θ' Ψ' deps' hoo hkd' => by
        obtain ⟨e, he, hb, hon⟩ := hS.dep i o Θ Ψ deps ho hk i0 hi0
        exact hW.2 i0 oo Θ' Ψ' deps' hoo (hon ▸ hall e he hb) hkd')
      have hK : ∀ u W', S.C W W' → Θ u → Ψ u W' → wpAny P md ops Q fuel (listed.setIfInBounds i true) (a.put o.dst u) W' := fun u W' hb ht hp =>
        go u none W' (by rw [hk]; exact ⟨ht, rfl⟩) ⟨S.trans hW.1 hb, know_mk hS hM hn ho hk hb hp hW.2⟩
      refine .inl ?_
      unfold Oper.wp
      generalize (execOp a.eval o).run P W = r at *
      cases r with
      | ok nx w' =>
        cases nx <;> simp only [makes] at h3 <;> simp only [Oper.upon]
        case value u => exact hK u w' h3.1 h3.2.1 h3.2.2
        case enter f args =>
          obtain ⟨e1, hc⟩ := h3
          rw [e1]
          exact hc.mono fun e w'' ⟨u, he, hb, ht, hp⟩ => by subst he; exact hK u w'' hb ht hp
      | halt x w' => simp only [makes] at h3
    ·
      rw [hk] at hok
      obtain ⟨hw, hr⟩ := hok
      rw [if_pos hw]
      obtain ⟨W', hrun⟩ := hr W hW
      have hK := go undef (some (fun W' => ∃ W, holdsK S ops w kd listed a κ W ∧ (execOp a.eval o).run P W = .ok .skip W')) W' (by rw [hk]; exact ⟨rfl, rfl⟩) ⟨W, hW, hrun⟩
      refine .inl ?_
      unfold Oper.wp
      rw [hrun]
      exact hK

/-! ### The walk in the order of the text -/
variable (S P ops w kd Q) in
def wpX : List Oper → Nat → Array Bool → Act → Option (World → Prop) → Prop
  | [], _, listed, a, κ => ∀ W, holdsK S ops w kd listed a κ W → Q .normal a W
  | o :: rest, k, listed, a, κ => okS S P ops w kd listed a κ o (kd k) ∧ ∀ u κ', outS S P ops w kd listed a κ o (kd k) u κ' → wpX rest (k + 1) (listed.setIfInBounds k true) (a.put o.dst u) κ'

theorem lexN (hS : Static md ops kd) : ∀ (l : List Oper) (k : Nat) (listed : Array Bool) (a : Act) (κ : Option (World → Prop)), k + l.length = ops.size → Unl ops.size listed = l.length → Closed md ops listed → (∀ j, j < l.length → l[j]? = ops[k + j]?) → lexPre md ops l.length k listed = true →
    Region.ready md ops (setFrom l.length k listed) = [] → wpX S P ops w kd Q l k listed a κ → N S P md ops w kd Q l.length listed a κ
  | [], k, listed, a, κ, _, _, _, _, _, hr, h => ⟨hr, h⟩
  | o :: l, k, listed, a, κ, hk, hu, hc, hl, hB, hre, h => by
    have h0 : ops[k]? = some o := by simpa using (hl 0 (by simp)).symm
    simp only [List.length_cons, lexPre, Bool.and_eq_true] at hB
    obtain ⟨⟨hr, hf⟩, hB'⟩ := hB
    have hr' : k ∈ Region.ready md ops listed := by simpa using hr
    have hkm : k < ops.size := by simp at hk; omega
    have hu' := unl_set (m := ops.size) (i := k) hkm (mem_ready.1 hr').1
    have hx : Unl ops.size (listed.setIfInBounds k true) = l.length := by simp only [List.length_cons] at hu; omega
    have hn : k + 1 + l.length = ops.size := by simp only [List.length_cons] at hk; omega
    have hj : ∀ j, j < l.length → l[j]? = ops[k + 1 + j]? := fun j hj => by
      have := hl (j + 1) (by simp; omega)
      simpa [Nat.add_assoc, Nat.add_comm 1 j] using this
    exact N_first hS h0 l.length listed a κ (by simpa using hu) hc (Region.free_spec h0 hf) hr' h.1 (fun u κ' hout => lexN hS l (k + 1) _ _ κ' hn hx (closed_set hc hr') hj hB' hre (h.2 u κ' hout))

/-! ### What the kernel looks at -/
def isPur : Kd → Bool
  | some none => true
  | _ => false
def isWr : Kd → Bool
  | some (some (.inr ())) => true
  | _ => false
/-- Which may have come up while k has not. -/
def canL (md : Region.Mode) (k : Nat) : List Oper → List Bool → List Bool
  | [], acc => acc
  | o :: l, acc => canL md k l (acc ++ [!(acc.length == k) && o.after.all (fun e => !Region.binds md e || acc.getD e.on false)])
theorem canL_spec {md : Region.Mode} {k : Nat} (Good : Nat → Prop) : ∀ (l : List Oper) (acc : List Bool), (∀ (j : Nat) o, l[j]? = some o → Good (acc.length + j) → acc.length + j ≠ k ∧ ∀ e ∈ o.after, Region.binds md e = true → e.on < acc.length + j ∧ Good e.on) →
    (∀ j, j < acc.length → Good j → acc.getD j false = true) → ∀ j, j < acc.length + l.length → Good j → (canL md k l acc).getD j false = true
  | [], acc, _, h, j, hj, hg => h j (by simpa using hj) hg
  | o :: l, acc, hs, h, j, hj, hg => by
    refine canL_spec Good l _ (fun j o' hj' hg' => ?_) (fun j hj' hg' => ?_) j (by simp at hj ⊢; omega) hg
    · have e : (acc ++ [!(acc.length == k) && o.after.all (fun e => !Region.binds md e || acc.getD e.on false)]).length + j = acc.length + (j + 1) := by simp; omega
      rw [e] at hg' ⊢
      exact hs (j + 1) o' (by simpa using hj') hg'
    · simp only [List.length_append, List.length_singleton] at hj'
      rcases Nat.lt_or_ge j acc.length with hlt | hge
      · rw [List.getD_eq_getElem?_getD, List.getElem?_append_left hlt, ← List.getD_eq_getElem?_getD]
        exact h j hlt hg'
      · obtain rfl : j = acc.length := by omega
        rw [List.getD_eq_getElem?_getD, List.getElem?_append_right (Nat.le_refl _)]
        simp only [Nat.sub_self, List.getElem?_cons_zero, Option.getD_some, Bool.and_eq_true, Bool.not_eq_true', beq_eq_false_iff_ne, ne_eq]
        have := hs 0 o (by simp) (by simpa using hg')
        refine ⟨by simpa using this.1, Array.all_eq_true_iff_forall_mem.2 fun e he => ?_⟩
        cases hb : Region.binds md e with
        | false => rfl
        | true =>
          have h2 := this.2 e he hb
          simp only [Bool.not_true, Bool.false_or]
          exact h e.on (by simpa using h2.1) h2.2

def staticB (md : Region.Mode) (ops : Array Oper) (kd : Nat → Kd) : Bool :=
  Region.noSelect ops &&
  ((List.range ops.size).all fun i => (List.range ops.size).all fun j => i == j || (match ops[i]?, ops[j]? with
    | some oi, some oj => (match oi.dst with
      | some d => oj.dst != some d
      | none => true)
    | _, _ => true)) &&
  ((List.range ops.size).all fun j => match ops[j]?, kd j with
    | some oj, some (some (.inl (_, _, deps))) => deps.all fun i0 => oj.after.any fun e => Region.binds md e && e.on == i0
    | _, _ => true) &&
  ((List.range ops.size).all fun j => match ops[j]? with
    | some oj => oj.after.all fun e => !Region.binds md e || decide (e.on < j)
    | none => true) &&
  ((List.range ops.size).all fun j => !isWr (kd j) || (List.range ops.size).all fun i => i == j || isPur (kd i) || !((canL md i ops.toList []).getD j false) || !((canL md j ops.toList []).getD i false))

theorem static_of (h : staticB md ops kd = true) : Static md ops kd := by
  simp only [staticB, Bool.and_eq_true] at h
  obtain ⟨⟨⟨⟨h1, h2⟩, h3⟩, h4⟩, h5⟩ := h
  refine ⟨h1, ?_, ?_, ?_⟩
  · intro i j oi oj d hi hj hne hd
    have a := List.all_eq_true.1 (List.all_eq_true.1 h2 i (List.mem_range.2 (Array.getElem?_eq_some_iff.1 hi).1)) j (List.mem_range.2 (Array.getElem?_eq_some_iff.1 hj).1)
    simp only [hi, hj, hd, Bool.or_eq_true, beq_iff_eq, hne, false_or, bne_iff_ne] at a
    exact a
  · intro j oj Θ Ψ deps hj hk i0 hi0
    have a := List.all_eq_true.1 h3 j (List.mem_range.2 (Array.getElem?_eq_some_iff.1 hj).1)
    simp only [hj, hk] at a
    obtain ⟨e, he, hb⟩ := Array.any_eq_true'.1 (List.all_eq_true.1 a i0 hi0)
    simp only [Bool.and_eq_true, beq_iff_eq] at hb
    exact ⟨e, he, hb.1, hb.2⟩
  · intro listed hc j hkj hj i hri hne
    -- neither can come up while the other waits
    have key : ∀ i j : Nat, i ∈ Region.ready md ops listed → j ∈ Region.ready md ops listed → i ≠ j → (canL md i ops.toList []).getD j false = false → False := by
      intro i j hri hj hne b
      obtain ⟨_, oj, hoj, hall⟩ := mem_ready.1 hj
      have hun := (mem_ready.1 hri).1
      have hs := canL_spec (md := md) (k := i) (fun q => q ≠ i ∧ ∀ oq, ops[q]? = some oq → ∀ e ∈ oq.after, Region.binds md e = true → listed.getD e.on false = true) ops.toList []
        (fun q o hq hg => by
          simp only [List.length_nil, Nat.zero_add] at hg ⊢
          refine ⟨hg.1, fun e he hb => ?_⟩
          have ho : ops[q]? = some o := by simpa using hq
          have hl := hg.2 o ho e he hb
          have hlt := List.all_eq_true.1 h4 q (List.mem_range.2 (Array.getElem?_eq_some_iff.1 ho).1)
          rw [ho] at hlt
          have hlt' := Array.all_eq_true_iff_forall_mem.1 hlt e he
          simp only [hb, Bool.not_true, Bool.false_or, decide_eq_true_eq] at hlt'
          refine ⟨hlt', fun heq => ?_, fun oq hoq e' he' hb' => hc e.on oq hoq hl e' he' hb'⟩
          rw [heq, unlisted hun] at hl
          cases hl)
        (fun q hq => by simp at hq) j (by simpa using (Array.getElem?_eq_some_iff.1 hoj).1) ⟨Ne.symm hne, fun oq hoq e he hb => by rw [hoj] at hoq; cases hoq; exact hall e he hb⟩
      rw [hs] at b
      cases b
    obtain ⟨_, oj, hoj, _⟩ := mem_ready.1 hj
    obtain ⟨_, oi, hi, _⟩ := mem_ready.1 hri
    have a := List.all_eq_true.1 h5 j (List.mem_range.2 (Array.getElem?_eq_some_iff.1 hoj).1)
    simp only [hkj, isWr, Bool.not_true, Bool.false_or] at a
    have b := List.all_eq_true.1 a i (List.mem_range.2 (Array.getElem?_eq_some_iff.1 hi).1)
    simp only [Bool.or_eq_true, beq_iff_eq, hne, false_or, Bool.not_eq_true'] at b
    rcases b with (b | b) | b
    · rcases hk : kd i with _ | _ | ⟨Θ, Ψ, deps⟩ | ⟨⟩ <;> rw [hk] at b <;> simp [isPur] at b
    · exact (key i j hri hj hne b).elim
    · exact (key j i hj hri (Ne.symm hne) b).elim

/-- THE REGION. -/
theorem wp_region_mix (S : Cls) {id : Nat} {a : Act} {l : List Oper} (kd : Nat → Kd) (hm : P.follows .mixedOrders = true)
    (hB : (staticB .any l.toArray kd && lexPre .any l.toArray l.length 0 (Array.replicate l.length false) && (Region.ready .any l.toArray (setFrom l.length 0 (Array.replicate l.length false))).isEmpty) = true)
    (hM : Makers S l.toArray kd a.tmps.size)
    (h : wpX S P l.toArray w kd Q l 0 (Array.replicate l.length false) a none) : (Code.region id l.toArray true).wp P Q a w := by
  simp only [Bool.and_eq_true, List.isEmpty_iff] at hB
  obtain ⟨⟨h1, h2⟩, h3⟩ := hB
  have hS := static_of h1
  refine wp_region_any hm ?_
  have hsize : l.toArray.size = l.length := by simp
  rw [hsize]
  refine wpAny_of_N (w := w) hS hM l.length _ a none _ rfl ⟨S.drawn w, ?_⟩ ?_
  · intro i o Θ Ψ deps _ hl _
    exfalso
    rcases Nat.lt_or_ge i l.length with h' | h'
    · simp [h'] at hl
    · simp [h'] at hl
  · refine lexN hS l 0 _ a none (by simp) (by rw [hsize]; exact unl_all _ _ (Nat.le_refl _)) (fun j oj hoj hl => ?_) (fun j hj => by simp) h2 h3 h
    exfalso
    rcases Nat.lt_or_ge j l.length with h' | h'
    · simp [h'] at hl
    · simp [h'] at hl

/-! ### Steps -/
theorem x_det {o : Oper} {rest : List Oper} {k : Nat} {listed : Array Bool} {a : Act} (hk : kd k = .det)
    (h : ∀ K : Act → Prop, (∀ a', wpX S P ops w kd Q rest (k + 1) (listed.setIfInBounds k true) a' none → K a') → if Region.wanted o (yielded ops a.tmps) = true then ∃ v, (∀ p : InC S w, isVal p.W v ((execOp a.eval o).run P p.W)) ∧ K (a.put o.dst v) else K (a.put o.dst undef)) :
    wpX S P ops w kd Q (o :: rest) k listed a none := by
  have h' := h _ (fun _ h => h)
  unfold wpX
  rw [hk]
  by_cases hw : Region.wanted o (yielded ops a.tmps) = true
  · rw [if_pos hw] at h'
    obtain ⟨v, h1, h2⟩ := h'
    have hall : ∀ W, S.C w W → isVal W v ((execOp a.eval o).run P W) := fun W hW => by
      exact h1 ⟨W, hW⟩
    have hv := valAt_of (hall w (S.refl _))
    refine ⟨fun _ => ⟨rfl, by rw [hv]; exact hall⟩, ?_⟩
    rintro u κ' ⟨rfl, rfl⟩
    rw [if_pos hw, hv]
    exact h2
  · rw [if_neg hw] at h'
    refine ⟨fun h => absurd h hw, ?_⟩
    rintro u κ' ⟨rfl, rfl⟩
    rw [if_neg hw]
    exact h'
theorem x_pur {o : Oper} {rest : List Oper} {k : Nat} {listed : Array Bool} {a : Act} {κ : Option (World → Prop)} (hk : kd k = .pur)
    (h : ∀ K : Act → Prop, (∀ a', wpX S P ops w kd Q rest (k + 1) (listed.setIfInBounds k true) a' κ → K a') → if Region.wanted o (yielded ops a.tmps) = true then ∃ v, (∀ W, isVal W v ((execOp a.eval o).run P W)) ∧ K (a.put o.dst v) else K (a.put o.dst undef)) :
    wpX S P ops w kd Q (o :: rest) k listed a κ := by
  have h' := h _ (fun _ h => h)
  unfold wpX
  rw [hk]
  by_cases hw : Region.wanted o (yielded ops a.tmps) = true
  · rw [if_pos hw] at h'
    obtain ⟨v, h1, h2⟩ := h'
    have hv := valAt_of (h1 w)
    refine ⟨fun _ => by rw [hv]; exact h1, ?_⟩
    rintro u κ' ⟨rfl, rfl⟩
    rw [if_pos hw, hv]
    exact h2
  · rw [if_neg hw] at h'
    refine ⟨fun h => absurd h hw, ?_⟩
    rintro u κ' ⟨rfl, rfl⟩
    rw [if_neg hw]
    exact h'
theorem x_mk {o : Oper} {rest : List Oper} {k : Nat} {listed : Array Bool} {a : Act} (Θ : Value → Prop) (Ψ : Value → World → Prop) (deps : List Nat) (hk : kd k = .mk Θ Ψ deps) (hw : Region.wanted o (yielded ops a.tmps) = true) (u0 : Value) (h0 : Θ u0)
    (hm : ∀ p : InC S w, (∀ i0 ∈ deps, dk ops kd a i0 p.W) → makes S P p.W Θ Ψ ((execOp a.eval o).run P p.W))
    (h : ∀ u, Θ u → wpX S P ops w kd Q rest (k + 1) (listed.setIfInBounds k true) (a.put o.dst u) none) :
    wpX S P ops w kd Q (o :: rest) k listed a none := by
  unfold wpX
  rw [hk]
  refine ⟨⟨hw, rfl, ⟨u0, h0⟩, fun W hW hd => ?_⟩, ?_⟩
  · exact hm ⟨W, hW⟩ hd
  · rintro u κ' ⟨hu, rfl⟩
    exact h u hu
theorem wpX_weaken : ∀ (l : List Oper) (k : Nat) (listed : Array Bool) (a : Act) (Φ Φ' : World → Prop), (∀ W, Φ' W → Φ W) → wpX S P ops w kd Q l k listed a (some Φ) → wpX S P ops w kd Q l k listed a (some Φ')
  | [], _, _, _, _, _, hi, h => fun W hW => h W (hi W hW)
  | o :: l, k, listed, a, Φ, Φ', hi, h => by
    obtain ⟨h1, h2⟩ := h
    unfold wpX
    rcases hk : kd k with _ | _ | ⟨Θ, Ψ, deps⟩ | ⟨⟩
    ·
      rw [hk] at h1 h2
      refine ⟨fun hw => (by have := (h1 hw).1; cases this), ?_⟩
      rintro u κ' ⟨hu, rfl⟩
      exact wpX_weaken l _ _ _ Φ Φ' hi (h2 u _ ⟨hu, rfl⟩)
    ·
      rw [hk] at h1 h2
      refine ⟨h1, ?_⟩
      rintro u κ' ⟨hu, rfl⟩
      exact wpX_weaken l _ _ _ Φ Φ' hi (h2 u _ ⟨hu, rfl⟩)
    ·
      rw [hk] at h1
      obtain ⟨_, h, _⟩ := h1
      cases h
    ·
      rw [hk] at h1 h2
      refine ⟨⟨h1.1, fun W hW => h1.2 W (hi W hW)⟩, ?_⟩
      rintro u κ' ⟨rfl, rfl⟩
      exact wpX_weaken l _ _ _ _ _ (fun W' ⟨W, hW, hr⟩ => ⟨W, hi W hW, hr⟩) (h2 undef _ ⟨rfl, rfl⟩)
theorem x_wr {o : Oper} {rest : List Oper} {k : Nat} {listed : Array Bool} {a : Act} {κ : Option (World → Prop)} (Φ : World → Prop) (hk : kd k = .wr) (hw : Region.wanted o (yielded ops a.tmps) = true)
    (hr : ∀ W, holdsK S ops w kd listed a κ W → ∃ W', (execOp a.eval o).run P W = .ok .skip W' ∧ Φ W')
    (h : wpX S P ops w kd Q rest (k + 1) (listed.setIfInBounds k true) (a.put o.dst undef) (some Φ)) :
    wpX S P ops w kd Q (o :: rest) k listed a κ := by
  unfold wpX
  rw [hk]
  refine ⟨⟨hw, fun W hW => by obtain ⟨W', h1, _⟩ := hr W hW; exact ⟨W', h1⟩⟩, ?_⟩
  rintro u κ' ⟨rfl, rfl⟩
  refine wpX_weaken rest _ _ _ Φ _ (fun W' ⟨W, hW, hrun⟩ => ?_) h
  obtain ⟨W2, h1, h2⟩ := hr W hW
  rw [h1] at hrun
  cases hrun
  exact h2

/-- The kinds, by the text's place; the others: 'det'. -/
def mkKd : List (Nat × Kd) → Nat → Kd
  | [], _ => .det
  | p :: L, i => if i == p.1 then p.2 else mkKd L i
theorem mkKd_mem : ∀ (L : List (Nat × Kd)) (i : Nat) Θ Ψ deps, mkKd L i = .mk Θ Ψ deps → (i, Kd.mk Θ Ψ deps) ∈ L
  | [], _, _, _, _, h => by cases h
  | p :: L, i, Θ, Ψ, deps, h => by
    unfold mkKd at h
    split at h
    · rename_i he
      have : i = p.1 := by simpa using he
      rw [this, ← h]
      exact List.mem_cons_self
    · exact List.mem_cons_of_mem _ (mkKd_mem L i Θ Ψ deps h)
def MakerOk (S : Cls) (ops : Array Oper) (n : Nat) (p : Nat × Kd) : Prop := match p.2 with
  | some (some (.inl (_, Ψ, _))) => (∀ u, LastsC S (Ψ u)) ∧ ∃ o d, ops[p.1]? = some o ∧ o.dst = some d ∧ d < n
  | _ => True
theorem makers_of {L : List (Nat × Kd)} {n : Nat} (h : ∀ p ∈ L, MakerOk S ops n p) : Makers S ops (mkKd L) n := by
  refine ⟨fun i Θ Ψ deps hk => (h _ (mkKd_mem L i Θ Ψ deps hk)).1, fun i o Θ Ψ deps ho hk => ?_⟩
  obtain ⟨o', d, h1, h2, h3⟩ := (h _ (mkKd_mem L i Θ Ψ deps hk)).2
  rw [ho] at h1
  cases h1
  exact ⟨d, h2, h3⟩

end
end MixC
end Go.Proofs.Qxb6612460aGreatFmt
