/-
  Moves through a region that draws its order, one operation at a time.
-/
import Derived.Test.Qxb6612460aGreatFmtBase
import Derived.OrdersHeld
namespace Go.Proofs.Qxb6612460aGreatFmt
section
variable {P : Program} {ops : Array Oper} {Q : Exit → Act → World → Prop} {md : Region.Mode} {S : World → Prop}

def yields1 (W : World) (v : Value) : Result Next → Prop
  | .ok (.value u) w' => u = v ∧ w' = W
  | _ => False
theorem yields1_run {W : World} {v : Value} {r : Result Next} (h : yields1 W v r) : r = .ok (.value v) W := by
  cases r with
  | ok n w' =>
    cases n <;> simp only [yields1] at h
    obtain ⟨rfl, rfl⟩ := h
    rfl
  | halt x w' => simp only [yields1] at h
/-- Operation i is taken first. -/
theorem takeK (i : Nat) {oi : Oper} {fuel : Nat} {listed : Array Bool} {a : Act} {w : World} (hi : ops[i]? = some oi) (hs : Region.noSelect ops = true) (hf : Region.free md ops listed i = true) (hr : (Region.ready md ops listed).contains i = true)
    (hw : Region.wanted oi (yielded ops a.tmps) = true) (hQ : ∀ (v : Value) c a w, Q (.panic c) (a.put oi.dst v) w → Q (.panic c) a w) (hS : S w)
    (h : ∀ K : Act → Prop, (∀ a', wpAnyH P md ops Q S fuel (listed.setIfInBounds i true) a' w → K a') → ∃ v, (∀ p : { z : World // S z }, yields1 p.1 v ((execOp a.eval oi).run P p.1)) ∧ K (a.put oi.dst v)) : wpAnyH P md ops Q S (fuel + 1) listed a w := by
  obtain ⟨v, h1, h2⟩ := h _ (fun _ h => h)
  exact wpAnyH_take hi hs hf hr (hQ v) (.inl ⟨hw, fun z hz => yields1_run (h1 ⟨z, hz⟩)⟩) hS h2
theorem wpOp_wp {i : Nat} {o : Oper} {K : Act → World → Prop} {a : Act} {w : World} (hi : ops[i]? = some o) (hw : Region.wanted o (yielded ops a.tmps) = true) (h : o.wp P a w K Q) : wpOp P ops Q i K a w := by
  unfold wpOp
  simp only [hi, hw, if_true]
  exact .inl h
/-- Operation i, the one that is ready. -/
theorem oneK (i : Nat) {o : Oper} {fuel : Nat} {listed : Array Bool} {a : Act} {w : World} (hr : Region.ready md ops listed = [i]) (hi : ops[i]? = some o) (hw : Region.wanted o (yielded ops a.tmps) = true)
    (h : o.wp P a w (fun a' w' => S w' ∧ wpAnyH P md ops Q S fuel (listed.setIfInBounds i true) a' w') Q) : wpAnyH P md ops Q S (fuel + 1) listed a w :=
  wpAnyH_all hr (by simp) (fun j hj => by simp only [List.mem_singleton] at hj; subst hj; exact wpOp_wp hi hw h)
theorem twoK (i j : Nat) {o o' : Oper} {fuel : Nat} {listed : Array Bool} {a : Act} {w : World} (hr : Region.ready md ops listed = [i, j]) (hi : ops[i]? = some o) (hj : ops[j]? = some o') (hw : Region.wanted o (yielded ops a.tmps) = true) (hw' : Region.wanted o' (yielded ops a.tmps) = true)
    (h : o.wp P a w (fun a' w' => S w' ∧ wpAnyH P md ops Q S fuel (listed.setIfInBounds i true) a' w') Q) (h' : o'.wp P a w (fun a' w' => S w' ∧ wpAnyH P md ops Q S fuel (listed.setIfInBounds j true) a' w') Q) : wpAnyH P md ops Q S (fuel + 1) listed a w :=
  wpAnyH_all hr (by simp) (fun q hq => by
    simp only [List.mem_cons, List.not_mem_nil, or_false] at hq
    rcases hq with rfl | rfl
    · exact wpOp_wp hi hw h
    · exact wpOp_wp hj hw' h')
end
end Go.Proofs.Qxb6612460aGreatFmt
