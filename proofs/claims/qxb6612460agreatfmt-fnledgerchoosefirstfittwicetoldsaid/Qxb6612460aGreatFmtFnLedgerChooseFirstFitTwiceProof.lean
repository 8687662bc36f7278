/-
  The proof of the given statement of this name: the walks are in the texts beside it; the frame is after the guide's own told and tied row.
-/
import Derived.Test.Qxb6612460aGreatFmtLawT
import Derived.Test.Qxb6612460aGreatFmtOpenN
import Derived.Test.Qxb6612460aGreatFmtLaid
import Derived.Test.Qxb6612460aGreatFmtCards
import Derived.Test.Qxb6612460aGreatFmtTie
import Derived.ProofKit
import Derived.Stop.JoinedAt
import Derived.Stop.JoinedTold
import Derived.SizedLaws
import Derived.ShutString
import Derived.Below
import Derived.SevenTiedAt
namespace Go.Proofs.Qxb6612460aGreatFmt.fnLedgerChooseFirstFitTwice
open Go.ChangeShapes Go.WideShapes Go.ChangeAt Go.RowKit
open Go.Extern.Stop Go.Stop Go.Extern
set_option linter.unusedVariables false

abbrev spec : OpenSpec := OpenSpec.ofChange Rows.fnLedgerChooseFirstFitTwiceSpec
abbrev row : OpenClaim := Rows.fnLedgerChooseFirstFitTwiceRow

theorem own : ownKnob Tryz.prog.godebug = none := by kernel_rfl
theorem laidOut : laidOutB Tryz.prog = true := by kernel_rfl

abbrev argsN : Array Value := #[.slice none 0 0, .slice none 0 0, .slice none 0 0, .int .i64 0, .int .i64 0, .int .i64 0, .int .i64 0, .bool false]
theorem laid_metN (os : Os) (args : Array Value) : laidMet Tryz.prog row.laid ((laidWorldOf Tryz.prog os).forCall (fun _ _ => 0) ⟨#[], args, []⟩).memory := laid_met os args
set_option maxRecDepth 1000000 in
theorem vars0 (os : Os) : ((laidWorldOf Tryz.prog os).forCall (fun _ _ => 0) ⟨#[], argsN, []⟩).variablesRefB Tryz.checked.prog = true := by kernel_rfl
set_option maxRecDepth 1000000 in
theorem rest0 (os : Os) : (((laidWorldOf Tryz.prog os).forCall (fun _ _ => 0) ⟨#[], argsN, []⟩).heap.toList.drop Tryz.checked.prog.globals.size).take ((begin Tryz.checked.prog (fun _ _ => 0) default).world.heap.size - Tryz.checked.prog.globals.size) =
      (begin Tryz.checked.prog (fun _ _ => 0) default).world.heap.toList.drop Tryz.checked.prog.globals.size := by kernel_rfl
set_option maxRecDepth 1000000 in
theorem ok0 (os : Os) : Input.okWideB Tryz.checked.prog ((laidWorldOf Tryz.prog os).forCall (fun _ _ => 0) ⟨#[], argsN, []⟩) 5 ⟨#[], argsN, []⟩ = true := by kernel_rfl

set_option maxRecDepth 1000000 in
theorem witness_row (os : Os) {H : Type} (enc : TypeId × Value → H) :
    spec.preRow enc Tryz.prog Tryz.f5 row.domain false row.laid ((laidWorldOf Tryz.prog os).forCall (fun _ _ => 0) ⟨#[], argsN, []⟩).memory argsN := by
  have hw : (DataW.whole enc Tryz.prog ((laidWorldOf Tryz.prog os).forCall (fun _ _ => 0) ⟨#[], argsN, []⟩).memory Tryz.f5.params.toList spec.vars false argsN.toList 8).map (fun x => (x.1, x.2.1)) =
      some ([.nil, .nil, .nil, .lit (.int .i64 0), .lit (.int .i64 0), .lit (.int .i64 0), .lit (.int .i64 0), .lit (.bool false)], []) := by kernel_rfl
  obtain ⟨⟨x1, x2, x3⟩, hx, hx1⟩ := Option.map_eq_some_iff.1 hw
  simp only [Prod.mk.injEq] at hx1
  obtain ⟨rfl, rfl⟩ := hx1
  exact OpenSpec.preRow_of_cond 8 hx (by kernel_rfl) (fun k hk => by cases hk) (by kernel_rfl) (laid_metN os _)

set_option maxRecDepth 100000 in
set_option maxHeartbeats 4000000 in
theorem lifted (os : Os) (started : os.Started) (H : Type) (enc : TypeId × Value → H) :
    ReturnsInTold none {} Tryz.checked os 5 .any Input.okWide (spec.preRow enc Tryz.prog Tryz.f5 row.domain false row.laid) (fun F => (spec.at F).post enc Tryz.prog Tryz.f5 false true false false) (aloneAtReturn Tryz.prog) nothingAlways := by
  refine returnsInTold_of_row (C := Tryz.checked) (s := spec) (by kernel_rfl) own started (by kernel_rfl) Tryz.func5
    (OpenSpec.witness_stopped_atRef (enc := enc) (C := Tryz.checked) false (laidWorldOf Tryz.prog os) argsN rfl (vars0 os) (rest0 os) (ok0 os) (witness_row os enc)) ?_
  intro F W base args ds gs before _ hF hval0 hW hcnd0 _ hsz0 hL _
  have hval : ∀ (j : Nat) t v, Tryz.f5.params[j]? = some t → args[j]? = some v → Value.okWide Tryz.prog W .any base t v := hval0
  have hW' := hW
  obtain ⟨p, q, hA0, hV0, rfl, _, _⟩ := hW
  have hA : DataW.TrodAll enc Tryz.prog W 0 (fun _ => true) true Tryz.f5.params.toList args.toList ds p := hA0
  rw [Tryz.params5] at hA hval
  obtain ⟨v0, vs0, d0, ds0, p0, q0, hargs, rfl, rfl, h0, r0⟩ := trodAll_cons hA
  obtain ⟨v1, vs1, d1, ds1, p1, q1, rfl, rfl, rfl, h1, r1⟩ := trodAll_cons r0
  obtain ⟨v2, vs2, d2, ds2, p2, q2, rfl, rfl, rfl, h2, r2⟩ := trodAll_cons r1
  obtain ⟨v3, vs3, d3, ds3, p3, q3, rfl, rfl, rfl, h3, r3⟩ := trodAll_cons r2
  obtain ⟨v4, vs4, d4, ds4, p4, q4, rfl, rfl, rfl, h4, r4⟩ := trodAll_cons r3
  obtain ⟨v5, vs5, d5, ds5, p5, q5, rfl, rfl, rfl, h5, r5⟩ := trodAll_cons r4
  obtain ⟨v6, vs6, d6, ds6, p6, q6, rfl, rfl, rfl, h6, r6⟩ := trodAll_cons r5
  obtain ⟨v7, vs7, d7, ds7, p7, q7, rfl, rfl, rfl, h7, r7⟩ := trodAll_cons r6
  obtain ⟨rfl, rfl, rfl⟩ := trodAll_nil r7
  obtain rfl : args = #[v0, v1, v2, v3, v4, v5, v6, v7] := by cases args; simp_all
  obtain ⟨rfl, rfl⟩ := trodVars_none hV0
  obtain ⟨a0, len0, cap0, rfl⟩ := okWide_slice Tryz.underlying22 (hval 0 22 v0 rfl rfl)
  obtain ⟨a1, len1, cap1, rfl⟩ := okWide_slice Tryz.underlying22 (hval 1 22 v1 rfl rfl)
  obtain ⟨a2, len2, cap2, rfl⟩ := okWide_slice Tryz.underlying23 (hval 2 23 v2 rfl rfl)
  have k0 := h0
  have k1 := h1
  have k2 := h2
  have lt0 : ∀ x ∈ p0, x.block < W.heap.size := by obtain ⟨m, hm⟩ := k0; exact DataW.trod_lt m _ _ _ hm
  have lt1 : ∀ x ∈ p1, x.block < W.heap.size := by obtain ⟨m, hm⟩ := k1; exact DataW.trod_lt m _ _ _ hm
  have lt2 : ∀ x ∈ p2, x.block < W.heap.size := by obtain ⟨m, hm⟩ := k2; exact DataW.trod_lt m _ _ _ hm
  obtain ⟨f0, hf0⟩ := h0
  obtain ⟨f1, hf1⟩ := h1
  obtain ⟨f2, hf2⟩ := h2
  obtain ⟨cs, rfl, ro0, bd0, ln0⟩ := open_nums Tryz.underlying22 Tryz.underlying2 (by kernel_rfl) hf0
  obtain ⟨ms, rfl, ro1, bd1, ln1⟩ := open_nums Tryz.underlying22 Tryz.underlying2 (by kernel_rfl) hf1
  obtain ⟨gs', rfl, ro2, bd2, ln2⟩ := open_nums Tryz.underlying23 Tryz.underlying3 (by kernel_rfl) hf2
  obtain ⟨x3, rfl, rfl, rfl, w3⟩ := open_int Tryz.underlying2 (hval 3 2 v3 rfl rfl) h3
  obtain ⟨x4, rfl, rfl, rfl, w4⟩ := open_int Tryz.underlying2 (hval 4 2 v4 rfl rfl) h4
  obtain ⟨x5, rfl, rfl, rfl, w5⟩ := open_int Tryz.underlying3 (hval 5 3 v5 rfl rfl) h5
  obtain ⟨x6, rfl, rfl, rfl, w6⟩ := open_int Tryz.underlying2 (hval 6 2 v6 rfl rfl) h6
  obtain ⟨x7, rfl, rfl, rfl⟩ := open_bool Tryz.underlying4 (hval 7 4 v7 rfl rfl) h7
  clear hA0 hval0
  refine (lawT a0 a1 a2 cap0 cap1 cap2 cs ms gs' x3 x4 x5 x6 x7 W ro0 ro1 ro2 ln0 ln1 ln2 bd0 bd1).mono fun e W' ⟨he, bel⟩ => ?_
  subst he
  exact ⟨_, rfl, _, _, _, [], _, [], hW', trodAll_mk1 (shut_bool Tryz.underlying4 _),
    (trodAll_cons_mk (Below.trod laidOut (by kernel_rfl) (of_decide_eq_true (by kernel_rfl)) k0 bel lt0)
      (trodAll_cons_mk (Below.trod laidOut (by kernel_rfl) (of_decide_eq_true (by kernel_rfl)) k1 bel lt1)
      (trodAll_cons_mk (Below.trod laidOut (by kernel_rfl) (of_decide_eq_true (by kernel_rfl)) k2 bel lt2)
      (trodAll_cons_mk (shut_int Tryz.underlying2 w3) (trodAll_cons_mk (shut_int Tryz.underlying2 w4) (trodAll_cons_mk (shut_int Tryz.underlying3 w5) (trodAll_cons_mk (shut_int Tryz.underlying2 w6) (trodAll_cons_mk (shut_bool Tryz.underlying4 _) trodAll_mk0)))))))),
    rfl, bel.frame _, fun h => by cases h⟩

theorem stops : Tryz.pinned.checked.prog.stops = ["fmt.Sprintf", "fmt.errorf"] := by kernel_rfl
theorem stopKnobs : Tryz.pinned.checked.prog.stopKnobs = [] := by kernel_rfl
theorem quiet (os : Os) : Stop.quiet Tryz.pinned.checked.prog os := by
  intro k hk
  rw [stopKnobs] at hk
  cases hk

theorem proved : Rows.FnLedgerChooseFirstFitTwiceToldSaid :=
  Claim7.holds_of_told_tied_any_at .later 5 Tryz.f5 "fmt.Sprintf" ["fmt.errorf"] [] _ _ _ _ _ (by kernel_rfl) rfl rfl rfl laidOut (by kernel_rfl) rfl ⟨rfl, rfl, rfl, rfl, rfl, rfl, rfl⟩ rfl rfl (by kernel_rfl) (by kernel_rfl) Tryz.func5 (by kernel_rfl)
    (of_decide_eq_true (by kernel_rfl)) (of_decide_eq_true (by kernel_rfl)) stops.symm rfl stopKnobs.symm (by kernel_rfl)
    (by kernel_rfl) (by kernel_rfl) (by kernel_rfl) (by kernel_rfl) (by kernel_rfl) (by kernel_rfl) (by kernel_rfl) (by kernel_rfl) (by kernel_rfl) rfl (by kernel_rfl) rfl rfl
    rfl rfl
    rfl (by kernel_rfl) (by kernel_rfl) (by kernel_rfl) (by decide) (by kernel_rfl) fnLedgerChooseFirstFitTwice_row_tie
    (OpenClaim.moreEntering_of (by kernel_rfl) (by kernel_rfl) (by kernel_rfl) (by kernel_rfl) (by kernel_rfl) (by kernel_rfl) (by kernel_rfl) (by kernel_rfl) (by kernel_rfl) (by kernel_rfl))
    ⟨_, WideRow.started_initial, quiet _⟩
    (fun os started _ H enc _ => lifted os started H enc)

#print axioms proved
end Go.Proofs.Qxb6612460aGreatFmt.fnLedgerChooseFirstFitTwice
