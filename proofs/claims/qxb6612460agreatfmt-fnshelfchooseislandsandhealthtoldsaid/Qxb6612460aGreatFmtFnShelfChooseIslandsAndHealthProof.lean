/-
  The proof of the given statement of this name: the walks are in the texts beside it; the frame is after the guide's own told and tied row.
-/
import Derived.Test.Qxb6612460aGreatFmtLaw
import Derived.Test.Qxb6612460aGreatFmtOpen
import Derived.Test.Qxb6612460aGreatFmtLaid
import Derived.Test.Qxb6612460aGreatFmtCards
import Derived.Test.Qxb6612460aGreatFmtTie
import Derived.ProofKit
import Derived.Stop.JoinedAt
import Derived.Stop.JoinedTold
import Derived.SizedLaws
import Derived.ShutString
import Derived.Below
import Derived.SevenTiedAt
namespace Go.Proofs.Qxb6612460aGreatFmt.fnShelfChooseIslandsAndHealth
open Go.ChangeShapes Go.WideShapes Go.ChangeAt Go.RowKit
open Go.Extern.Stop Go.Stop Go.Extern
set_option linter.unusedVariables false

abbrev spec : OpenSpec := OpenSpec.ofChange Rows.fnShelfChooseIslandsAndHealthSpec
abbrev row : OpenClaim := Rows.fnShelfChooseIslandsAndHealthRow

theorem own : ownKnob Tryz.prog.godebug = none := by kernel_rfl
theorem laidOut : laidOutB Tryz.prog = true := by kernel_rfl

set_option maxRecDepth 1000000 in
theorem witness_row (os : Os) {H : Type} (enc : TypeId × Value → H) :
    spec.preRow enc Tryz.prog Tryz.f4 row.domain false row.laid ((laidWorldOf Tryz.prog os).forCall (fun _ _ => 0) ⟨#[], args0, []⟩).memory args0 := by
  have hw : (DataW.whole enc Tryz.prog ((laidWorldOf Tryz.prog os).forCall (fun _ _ => 0) ⟨#[], args0, []⟩).memory Tryz.f4.params.toList spec.vars false args0.toList 8).map (fun x => (x.1, x.2.1)) =
      some ([.lit (.int .i64 0), .lit (.int .i64 0), .nil, .nil, .lit (.int .i64 0), .lit (.int .i64 0), .lit (.int .i64 0), .lit (.bool false)], []) := by kernel_rfl
  obtain ⟨⟨x1, x2, x3⟩, hx, hx1⟩ := Option.map_eq_some_iff.1 hw
  simp only [Prod.mk.injEq] at hx1
  obtain ⟨rfl, rfl⟩ := hx1
  exact OpenSpec.preRow_of_cond 8 hx (by kernel_rfl) (fun k hk => by cases hk) (by kernel_rfl) (laid_met os _)

set_option maxRecDepth 100000 in
set_option maxHeartbeats 4000000 in
theorem lifted (os : Os) (started : os.Started) (H : Type) (enc : TypeId × Value → H) :
    ReturnsInTold none {} Tryz.checked os 4 .any Input.okWide (spec.preRow enc Tryz.prog Tryz.f4 row.domain false row.laid) (fun F => (spec.at F).post enc Tryz.prog Tryz.f4 false true false false) (aloneAtReturn Tryz.prog) nothingAlways := by
  refine returnsInTold_of_row (C := Tryz.checked) (s := spec) (by kernel_rfl) own started (by kernel_rfl) Tryz.func4
    (OpenSpec.witness_stopped_atRef (enc := enc) (C := Tryz.checked) false (laidWorldOf Tryz.prog os) args0 rfl (laid_vars os) (laid_rest os) (laid_ok4 os) (witness_row os enc)) ?_
  intro F W base args ds gs before _ hF hval0 hW hcnd0 _ hsz0 hL _
  have hval : ∀ (j : Nat) t v, Tryz.f4.params[j]? = some t → args[j]? = some v → Value.okWide Tryz.prog W .any base t v := hval0
  have hW' := hW
  obtain ⟨p, q, hA0, hV0, rfl, _, _⟩ := hW
  have hA : DataW.TrodAll enc Tryz.prog W 0 (fun _ => true) true Tryz.f4.params.toList args.toList ds p := hA0
  rw [Tryz.params4] at hA hval
  obtain ⟨v0, vs0, d0, ds0, p0, q0, hargs, rfl, rfl, h0, r0⟩ := trodAll_cons hA
  obtain ⟨v1, vs1, d1, ds1, p1, q1, rfl, rfl, rfl, h1, r1⟩ := trodAll_cons r0
  obtain ⟨v2, vs2, d2, ds2, p2, q2, rfl, rfl, rfl, h2, r2⟩ := trodAll_cons r1
  obtain ⟨v3, vs3, d3, ds3, p3, q3, rfl, rfl, rfl, h3, r3⟩ := trodAll_cons r2
  obtain ⟨v4, vs4, d4, ds4, p4, q4, rfl, rfl, rfl, h4, r4⟩ := trodAll_cons r3
  obtain ⟨v5, vs5, d5, ds5, p5, q5, rfl, rfl, rfl, h5, r5⟩ := trodAll_cons r4
  obtain ⟨v6, vs6, d6, ds6, p6, q6, rfl, rfl, rfl, h6, r6⟩ := trodAll_cons r5
  obtain ⟨v7, vs7, d7, ds7, p7, q7, rfl, rfl, rfl, h7, r7⟩ := trodAll_cons r6
  obtain ⟨rfl, rfl, rfl⟩ := trodAll_nil r7
  obtain rfl : args = #[v0, v1, v2, v3, v4, v5, v6, v7] := by cases args; simp_all
  obtain ⟨rfl, rfl⟩ := trodVars_none hV0
  obtain ⟨a2, len2, cap2, rfl⟩ := okWide_slice Tryz.underlying41 (hval 2 41 v2 rfl rfl)
  obtain ⟨a3, len3, cap3, rfl⟩ := okWide_slice Tryz.underlying42 (hval 3 42 v3 rfl rfl)
  have k2 := h2
  have k3 := h3
  have lt2 : ∀ x ∈ p2, x.block < W.heap.size := by obtain ⟨m, hm⟩ := k2; exact DataW.trod_lt m _ _ _ hm
  have lt3 : ∀ x ∈ p3, x.block < W.heap.size := by obtain ⟨m, hm⟩ := k3; exact DataW.trod_lt m _ _ _ hm
  obtain ⟨f2, hf2⟩ := h2
  obtain ⟨f3, hf3⟩ := h3
  obtain ⟨ss, rfl, ro2, bd2, ln2⟩ := open_txts hf2
  obtain ⟨us, rfl, ro3, ln3⟩ := open_bits hf3
  obtain ⟨x0, rfl, rfl, rfl, w0⟩ := open_int Tryz.underlying2 (hval 0 2 v0 rfl rfl) h0
  obtain ⟨x1, rfl, rfl, rfl, w1⟩ := open_int Tryz.underlying2 (hval 1 2 v1 rfl rfl) h1
  obtain ⟨x4, rfl, rfl, rfl, w4⟩ := open_int Tryz.underlying2 (hval 4 2 v4 rfl rfl) h4
  obtain ⟨x5, rfl, rfl, rfl, w5⟩ := open_int Tryz.underlying2 (hval 5 2 v5 rfl rfl) h5
  obtain ⟨x6, rfl, rfl, rfl, w6⟩ := open_int Tryz.underlying3 (hval 6 3 v6 rfl rfl) h6
  obtain ⟨x7, rfl, rfl, rfl⟩ := open_bool Tryz.underlying4 (hval 7 4 v7 rfl rfl) h7
  clear hA0 hval0
  have b0 : x0 ≤ 9223372036854775807 := by
    have e1 : IntKind.i64.min = -9223372036854775808 := rfl
    have e2 : IntKind.i64.max = 9223372036854775807 := rfl
    simp [Lit.wf, e1, e2] at w0; omega
  have b1 : x1 ≤ 9223372036854775807 := by
    have e1 : IntKind.i64.min = -9223372036854775808 := rfl
    have e2 : IntKind.i64.max = 9223372036854775807 := rfl
    simp [Lit.wf, e1, e2] at w1; omega
  refine (law x0 x1 x4 x5 x6 x7 a2 a3 cap2 cap3 ss us W ro2 ro3 ln2 ln3 bd2 b0 b1).mono fun e W' ⟨he, bel⟩ => ?_
  subst he
  exact ⟨_, rfl, _, _, _, [], _, [], hW', trodAll_mk1 (shut_bool Tryz.underlying4 _),
    (trodAll_cons_mk (shut_int Tryz.underlying2 w0) (trodAll_cons_mk (shut_int Tryz.underlying2 w1)
      (trodAll_cons_mk (Below.trod laidOut (by kernel_rfl) (of_decide_eq_true (by kernel_rfl)) k2 bel lt2)
      (trodAll_cons_mk (Below.trod laidOut (by kernel_rfl) (of_decide_eq_true (by kernel_rfl)) k3 bel lt3)
      (trodAll_cons_mk (shut_int Tryz.underlying2 w4) (trodAll_cons_mk (shut_int Tryz.underlying2 w5) (trodAll_cons_mk (shut_int Tryz.underlying3 w6) (trodAll_cons_mk (shut_bool Tryz.underlying4 _) trodAll_mk0)))))))),
    rfl, bel.frame _, fun h => by cases h⟩

theorem stops : Tryz.pinned.checked.prog.stops = ["fmt.Sprintf", "fmt.errorf"] := by kernel_rfl
theorem stopKnobs : Tryz.pinned.checked.prog.stopKnobs = [] := by kernel_rfl
theorem quiet (os : Os) : Stop.quiet Tryz.pinned.checked.prog os := by
  intro k hk
  rw [stopKnobs] at hk
  cases hk

theorem proved : Rows.FnShelfChooseIslandsAndHealthToldSaid :=
  Claim7.holds_of_told_tied_any_at .later 4 Tryz.f4 "fmt.Sprintf" ["fmt.errorf"] [] _ _ _ _ _ (by kernel_rfl) rfl rfl rfl laidOut (by kernel_rfl) rfl ⟨rfl, rfl, rfl, rfl, rfl, rfl, rfl⟩ rfl rfl (by kernel_rfl) (by kernel_rfl) Tryz.func4 (by kernel_rfl)
    (of_decide_eq_true (by kernel_rfl)) (of_decide_eq_true (by kernel_rfl)) stops.symm rfl stopKnobs.symm (by kernel_rfl)
    (by kernel_rfl) (by kernel_rfl) (by kernel_rfl) (by kernel_rfl) (by kernel_rfl) (by kernel_rfl) (by kernel_rfl) (by kernel_rfl) (by kernel_rfl) rfl (by kernel_rfl) rfl rfl
    rfl rfl
    rfl (by kernel_rfl) (by kernel_rfl) (by kernel_rfl) (by decide) (by kernel_rfl) fnShelfChooseIslandsAndHealth_row_tie
    (OpenClaim.moreEntering_of (by kernel_rfl) (by kernel_rfl) (by kernel_rfl) (by kernel_rfl) (by kernel_rfl) (by kernel_rfl) (by kernel_rfl) (by kernel_rfl) (by kernel_rfl) (by kernel_rfl))
    ⟨_, WideRow.started_initial, quiet _⟩
    (fun os started _ H enc _ => lifted os started H enc)

#print axioms proved
end Go.Proofs.Qxb6612460aGreatFmt.fnShelfChooseIslandsAndHealth
