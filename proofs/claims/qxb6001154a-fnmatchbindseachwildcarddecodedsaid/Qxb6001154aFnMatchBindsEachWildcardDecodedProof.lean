/-
  The proof of the given statement of this name: the walks are in the texts beside it; the frame is after the guide's own shell for a law over slices, with the form's own bound on sizes.
-/
import Derived.Test.Qxb6001154aLawMatch
import Derived.Test.Qxb6001154aOpen
import Derived.Test.Qxb6001154aFactsMatch
import Derived.ShutString
import Derived.Below
namespace Go.Proofs.Qxb6001154a.fnMatchBindsEachWildcardDecoded
open Go.ChangeShapes Go.WideShapes Go.ChangeAt Go.RowKit
open Go.ChangeMaps (open_string shut_string)
set_option linter.unusedVariables false

theorem own : ownKnob Try.prog.godebug = none := by kernel_rfl
theorem laidOut : laidOutB Try.prog = true := by kernel_rfl

set_option maxRecDepth 100000 in
theorem lifted (os : Os) (started : os.Started) (H : Type) (enc : TypeId × Value → H) :
    ReturnsInHanded {} Try.checked os 7 .any (Rows.fnMatchBindsEachWildcardDecodedSpec.pre6 enc Try.prog Try.f7 Rows.fnMatchBindsEachWildcardDecodedRow.domain false) (Rows.fnMatchBindsEachWildcardDecodedSpec.post enc Try.prog Try.f7 false true false false) := by
  refine returnsInHanded_of_change_sized (C := Try.checked) own started (by kernel_rfl) Try.func7
    (ChangeSpec.witness6 (enc := enc) (C := Try.checked) false ⟨#[], #[.int .i64 0, .slice none 0 0], []⟩ 8 (by kernel_rfl) (by kernel_rfl) (by kernel_rfl) (by kernel_rfl)) ?_
  intro W base args ds gs before hval0 hW hcnd hsz0 _
  have hval : ∀ (j : Nat) t v, Try.f7.params[j]? = some t → args[j]? = some v → Value.okWide Try.prog W .any base t v := hval0
  have hW' := hW
  obtain ⟨p, q, hA0, hV, rfl, hfz, hnd⟩ := hW
  have hA : DataW.TrodAll enc Try.prog W 0 (fun _ => true) true Try.f7.params.toList args.toList ds p := hA0
  have hsz : (DataW.weightsEach Try.prog (Try.f7.params.toList ++ Rows.fnMatchBindsEachWildcardDecodedSpec.plain.varTypes Try.prog) (ds ++ gs)).all (· ≤ reachBytes) = true := hsz0
  rw [Try.params7] at hA hval hsz
  obtain ⟨v4, vs4, d4, ds4, p4, q4, hargs, rfl, rfl, h4, r4⟩ := trodAll_cons hA
  obtain ⟨v1, vs1, d1, ds1, p1, q1, rfl, rfl, rfl, h1, r1⟩ := trodAll_cons r4
  obtain ⟨rfl, rfl, rfl⟩ := trodAll_nil r1
  obtain rfl : args = #[v4, v1] := by cases args; simp_all
  obtain ⟨rfl, rfl⟩ := trodVars_none hV
  obtain ⟨a1, len1, cap1, rfl⟩ := okWide_slice Try.underlying26 (hval 1 26 v1 rfl rfl)
  have k1 := h1
  have lt1 : ∀ x ∈ p1, x.block < W.heap.size := by obtain ⟨m, hm⟩ := k1; exact DataW.trod_lt m _ _ _ hm
  obtain ⟨f1, hf1⟩ := h1
  obtain ⟨ks1, rfl, ro1, bd1, ln1⟩ := open_txts hf1 hsz (j := 1) rfl rfl
  obtain ⟨a4, rfl, rfl, rfl, w4⟩ := open_int Try.underlying3 (hval 0 3 v4 rfl rfl) h4
  clear hA0 hval0
  refine (binds a4 a1 cap1 ks1 W ro1 ln1 bd1).mono fun e W' ⟨he, bel⟩ => ?_
  subst he
  exact ⟨_, rfl, _, _, _, [], _, [], hW', trodAll_mk1 (shut_bool Try.underlying4 _), (trodAll_cons_mk (shut_int Try.underlying3 w4) (trodAll_cons_mk (Below.trod laidOut (by kernel_rfl) (of_decide_eq_true (by kernel_rfl)) k1 bel lt1) trodAll_mk0)), rfl, bel.frame _, fun h => by cases h⟩

theorem named : Try.prog.funcNamed Rows.fnMatchBindsEachWildcardDecodedRow.func = some 7 := by kernel_rfl
theorem inst : Try.f7.isInstance Try.prog Rows.fnMatchBindsEachWildcardDecodedRow.origin Rows.fnMatchBindsEachWildcardDecodedRow.targs := of_decide_eq_true (by kernel_rfl)
theorem wrap : Try.f7.isWrapper Try.prog Rows.fnMatchBindsEachWildcardDecodedRow.wrapper Rows.fnMatchBindsEachWildcardDecodedRow.mainSum := by
  unfold Func.isWrapper; rw [if_neg (by decide +kernel)]; exact ⟨rfl, rfl⟩

theorem over : Rows.fnMatchBindsEachWildcardDecodedRow.holds Try.pinned (OpenSpec.ofChange Rows.fnMatchBindsEachWildcardDecodedSpec) :=
  OpenClaim.holds_of_wide 7 Try.f7 rfl rfl rfl rfl rfl rfl rfl ⟨rfl, rfl, rfl, rfl, rfl⟩ rfl rfl rfl rfl rfl named Try.func7 closed
    inst wrap
    (fun os started H enc _ => lifted os started H enc)

theorem proved : Rows.FnMatchBindsEachWildcardDecodedSaid := over
#print axioms proved
end Go.Proofs.Qxb6001154a.fnMatchBindsEachWildcardDecoded
