/-
  The proof of the given statement of this name: the walks are in the texts beside it; the frame is after the guide's own shell for a law over slices, with the form's own bound on sizes.
-/
import Derived.Test.Qxb6001154aLawKeys
import Derived.Test.Qxb6001154aOpen
import Derived.Test.Qxb6001154aFactsKeys
import Derived.ShutString
import Derived.Below
namespace Go.Proofs.Qxb6001154a.fnAddKeysLiteralsByDecodedBytes
open Go.ChangeShapes Go.WideShapes Go.ChangeAt Go.RowKit
open Go.ChangeMaps (open_string shut_string)
set_option linter.unusedVariables false

theorem own : ownKnob Try.prog.godebug = none := by kernel_rfl
theorem laidOut : laidOutB Try.prog = true := by kernel_rfl

set_option maxRecDepth 100000 in
theorem lifted (os : Os) (started : os.Started) (H : Type) (enc : TypeId × Value → H) :
    ReturnsInHanded {} Try.checked os 9 .any (Rows.fnAddKeysLiteralsByDecodedBytesSpec.pre6 enc Try.prog Try.f9 Rows.fnAddKeysLiteralsByDecodedBytesRow.domain false) (Rows.fnAddKeysLiteralsByDecodedBytesSpec.post enc Try.prog Try.f9 false true false false) := by
  refine returnsInHanded_of_change_sized (C := Try.checked) own started (by kernel_rfl) Try.func9
    (ChangeSpec.witness6 (enc := enc) (C := Try.checked) false ⟨#[], #[.slice none 0 0, .slice none 0 0, .int .i64 0, .int .i64 0], []⟩ 8 (by kernel_rfl) (by kernel_rfl) (by kernel_rfl) (by kernel_rfl)) ?_
  intro W base args ds gs before hval0 hW hcnd hsz0 _
  have hval : ∀ (j : Nat) t v, Try.f9.params[j]? = some t → args[j]? = some v → Value.okWide Try.prog W .any base t v := hval0
  have hW' := hW
  obtain ⟨p, q, hA0, hV, rfl, hfz, hnd⟩ := hW
  have hA : DataW.TrodAll enc Try.prog W 0 (fun _ => true) true Try.f9.params.toList args.toList ds p := hA0
  have hsz : (DataW.weightsEach Try.prog (Try.f9.params.toList ++ Rows.fnAddKeysLiteralsByDecodedBytesSpec.plain.varTypes Try.prog) (ds ++ gs)).all (· ≤ reachBytes) = true := hsz0
  rw [Try.params9] at hA hval hsz
  obtain ⟨v0, vs0, d0, ds0, p0, q0, hargs, rfl, rfl, h0, r0⟩ := trodAll_cons hA
  obtain ⟨v1, vs1, d1, ds1, p1, q1, rfl, rfl, rfl, h1, r1⟩ := trodAll_cons r0
  obtain ⟨v4, vs4, d4, ds4, p4, q4, rfl, rfl, rfl, h4, r4⟩ := trodAll_cons r1
  obtain ⟨v5, vs5, d5, ds5, p5, q5, rfl, rfl, rfl, h5, r5⟩ := trodAll_cons r4
  obtain ⟨rfl, rfl, rfl⟩ := trodAll_nil r5
  obtain rfl : args = #[v0, v1, v4, v5] := by cases args; simp_all
  obtain ⟨rfl, rfl⟩ := trodVars_none hV
  obtain ⟨a0, len0, cap0, rfl⟩ := okWide_slice Try.underlying53 (hval 0 53 v0 rfl rfl)
  have k0 := h0
  have lt0 : ∀ x ∈ p0, x.block < W.heap.size := by obtain ⟨m, hm⟩ := k0; exact DataW.trod_lt m _ _ _ hm
  obtain ⟨f0, hf0⟩ := h0
  obtain ⟨ks0, rfl, ro0, bd0, ln0⟩ := open_u8s hf0 hsz (j := 0) rfl rfl
  obtain ⟨a1, len1, cap1, rfl⟩ := okWide_slice Try.underlying26 (hval 1 26 v1 rfl rfl)
  have k1 := h1
  have lt1 : ∀ x ∈ p1, x.block < W.heap.size := by obtain ⟨m, hm⟩ := k1; exact DataW.trod_lt m _ _ _ hm
  obtain ⟨f1, hf1⟩ := h1
  obtain ⟨ks1, rfl, ro1, bd1, ln1⟩ := open_txts hf1 hsz (j := 1) rfl rfl
  obtain ⟨a4, rfl, rfl, rfl, w4⟩ := open_int Try.underlying3 (hval 2 3 v4 rfl rfl) h4
  obtain ⟨a5, rfl, rfl, rfl, w5⟩ := open_int Try.underlying3 (hval 3 3 v5 rfl rfl) h5
  clear hA0 hval0
  refine (keys a0 cap0 ks0 a1 cap1 ks1 a4 a5 W ro0 ro1 bd0 ln0 ln1 bd1).mono fun e W' ⟨he, bel⟩ => ?_
  subst he
  exact ⟨_, rfl, _, _, _, [], _, [], hW', trodAll_mk1 (shut_bool Try.underlying4 _), (trodAll_cons_mk (Below.trod laidOut (by kernel_rfl) (of_decide_eq_true (by kernel_rfl)) k0 bel lt0) (trodAll_cons_mk (Below.trod laidOut (by kernel_rfl) (of_decide_eq_true (by kernel_rfl)) k1 bel lt1) (trodAll_cons_mk (shut_int Try.underlying3 w4) (trodAll_cons_mk (shut_int Try.underlying3 w5) trodAll_mk0)))), rfl, bel.frame _, fun h => by cases h⟩

theorem named : Try.prog.funcNamed Rows.fnAddKeysLiteralsByDecodedBytesRow.func = some 9 := by kernel_rfl
theorem inst : Try.f9.isInstance Try.prog Rows.fnAddKeysLiteralsByDecodedBytesRow.origin Rows.fnAddKeysLiteralsByDecodedBytesRow.targs := of_decide_eq_true (by kernel_rfl)
theorem wrap : Try.f9.isWrapper Try.prog Rows.fnAddKeysLiteralsByDecodedBytesRow.wrapper Rows.fnAddKeysLiteralsByDecodedBytesRow.mainSum := by
  unfold Func.isWrapper; rw [if_neg (by decide +kernel)]; exact ⟨rfl, rfl⟩

theorem over : Rows.fnAddKeysLiteralsByDecodedBytesRow.holds Try.pinned (OpenSpec.ofChange Rows.fnAddKeysLiteralsByDecodedBytesSpec) :=
  OpenClaim.holds_of_wide 9 Try.f9 rfl rfl rfl rfl rfl rfl rfl ⟨rfl, rfl, rfl, rfl, rfl⟩ rfl rfl rfl rfl rfl named Try.func9 closed
    inst wrap
    (fun os started H enc _ => lifted os started H enc)

theorem proved : Rows.FnAddKeysLiteralsByDecodedBytesSaid := over
#print axioms proved
end Go.Proofs.Qxb6001154a.fnAddKeysLiteralsByDecodedBytes
