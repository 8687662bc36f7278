/-
  The proof of the given statement of this name: the walks are in the texts beside it; the frame is after the guide's own shell for a law over slices, with the form's own bound on sizes.
-/
import Derived.Test.Qxb6001154aLawKeeps
import Derived.Test.Qxb6001154aOpen
import Derived.Test.Qxb6001154aFactsKeeps
import Derived.ShutString
import Derived.Below
namespace Go.Proofs.Qxb6001154a.fnAddKeepsEarlierTemplates
open Go.ChangeShapes Go.WideShapes Go.ChangeAt Go.RowKit
open Go.ChangeMaps (open_string shut_string)
set_option linter.unusedVariables false

theorem own : ownKnob Try.prog.godebug = none := by kernel_rfl
theorem laidOut : laidOutB Try.prog = true := by kernel_rfl

set_option maxRecDepth 100000 in
theorem lifted (os : Os) (started : os.Started) (H : Type) (enc : TypeId × Value → H) :
    ReturnsInHanded {} Try.checked os 10 .any (Rows.fnAddKeepsEarlierTemplatesSpec.pre6 enc Try.prog Try.f10 Rows.fnAddKeepsEarlierTemplatesRow.domain false) (Rows.fnAddKeepsEarlierTemplatesSpec.post enc Try.prog Try.f10 false true false false) := by
  refine returnsInHanded_of_change_sized (C := Try.checked) own started (by kernel_rfl) Try.func10
    (ChangeSpec.witness6 (enc := enc) (C := Try.checked) false ⟨#[], #[.slice none 0 0, .slice none 0 0, .slice none 0 0, .slice none 0 0, .int .i64 0, .int .i64 0], []⟩ 8 (by kernel_rfl) (by kernel_rfl) (by kernel_rfl) (by kernel_rfl)) ?_
  intro W base args ds gs before hval0 hW hcnd hsz0 _
  have hval : ∀ (j : Nat) t v, Try.f10.params[j]? = some t → args[j]? = some v → Value.okWide Try.prog W .any base t v := hval0
  have hW' := hW
  obtain ⟨p, q, hA0, hV, rfl, hfz, hnd⟩ := hW
  have hA : DataW.TrodAll enc Try.prog W 0 (fun _ => true) true Try.f10.params.toList args.toList ds p := hA0
  have hsz : (DataW.weightsEach Try.prog (Try.f10.params.toList ++ Rows.fnAddKeepsEarlierTemplatesSpec.plain.varTypes Try.prog) (ds ++ gs)).all (· ≤ reachBytes) = true := hsz0
  rw [Try.params10] at hA hval hsz
  obtain ⟨v0, vs0, d0, ds0, p0, q0, hargs, rfl, rfl, h0, r0⟩ := trodAll_cons hA
  obtain ⟨v1, vs1, d1, ds1, p1, q1, rfl, rfl, rfl, h1, r1⟩ := trodAll_cons r0
  obtain ⟨v2, vs2, d2, ds2, p2, q2, rfl, rfl, rfl, h2, r2⟩ := trodAll_cons r1
  obtain ⟨v3, vs3, d3, ds3, p3, q3, rfl, rfl, rfl, h3, r3⟩ := trodAll_cons r2
  obtain ⟨v4, vs4, d4, ds4, p4, q4, rfl, rfl, rfl, h4, r4⟩ := trodAll_cons r3
  obtain ⟨v5, vs5, d5, ds5, p5, q5, rfl, rfl, rfl, h5, r5⟩ := trodAll_cons r4
  obtain ⟨rfl, rfl, rfl⟩ := trodAll_nil r5
  obtain rfl : args = #[v0, v1, v2, v3, v4, v5] := by cases args; simp_all
  obtain ⟨rfl, rfl⟩ := trodVars_none hV
  obtain ⟨a0, len0, cap0, rfl⟩ := okWide_slice Try.underlying53 (hval 0 53 v0 rfl rfl)
  have k0 := h0
  have lt0 : ∀ x ∈ p0, x.block < W.heap.size := by obtain ⟨m, hm⟩ := k0; exact DataW.trod_lt m _ _ _ hm
  obtain ⟨f0, hf0⟩ := h0
  obtain ⟨ks0, rfl, ro0, bd0, ln0⟩ := open_u8s hf0 hsz (j := 0) rfl rfl
  obtain ⟨a1, len1, cap1, rfl⟩ := okWide_slice Try.underlying26 (hval 1 26 v1 rfl rfl)
  have k1 := h1
  have lt1 : ∀ x ∈ p1, x.block < W.heap.size := by obtain ⟨m, hm⟩ := k1; exact DataW.trod_lt m _ _ _ hm
  obtain ⟨f1, hf1⟩ := h1
  obtain ⟨ks1, rfl, ro1, bd1, ln1⟩ := open_txts hf1 hsz (j := 1) rfl rfl
  obtain ⟨a2, len2, cap2, rfl⟩ := okWide_slice Try.underlying53 (hval 2 53 v2 rfl rfl)
  have k2 := h2
  have lt2 : ∀ x ∈ p2, x.block < W.heap.size := by obtain ⟨m, hm⟩ := k2; exact DataW.trod_lt m _ _ _ hm
  obtain ⟨f2, hf2⟩ := h2
  obtain ⟨ks2, rfl, ro2, bd2, ln2⟩ := open_u8s hf2 hsz (j := 2) rfl rfl
  obtain ⟨a3, len3, cap3, rfl⟩ := okWide_slice Try.underlying26 (hval 3 26 v3 rfl rfl)
  have k3 := h3
  have lt3 : ∀ x ∈ p3, x.block < W.heap.size := by obtain ⟨m, hm⟩ := k3; exact DataW.trod_lt m _ _ _ hm
  obtain ⟨f3, hf3⟩ := h3
  obtain ⟨ks3, rfl, ro3, bd3, ln3⟩ := open_txts hf3 hsz (j := 3) rfl rfl
  obtain ⟨a4, rfl, rfl, rfl, w4⟩ := open_int Try.underlying3 (hval 4 3 v4 rfl rfl) h4
  obtain ⟨a5, rfl, rfl, rfl, w5⟩ := open_int Try.underlying3 (hval 5 3 v5 rfl rfl) h5
  clear hA0 hval0
  refine (keeps a0 cap0 ks0 a1 cap1 ks1 a2 cap2 ks2 a3 cap3 ks3 a4 a5 W ro0 ro1 ro2 ro3 bd0 bd2 ln0 ln1 ln2 ln3 bd1 bd3).mono fun e W' ⟨he, bel⟩ => ?_
  subst he
  exact ⟨_, rfl, _, _, _, [], _, [], hW', trodAll_mk1 (shut_bool Try.underlying4 _), (trodAll_cons_mk (Below.trod laidOut (by kernel_rfl) (of_decide_eq_true (by kernel_rfl)) k0 bel lt0) (trodAll_cons_mk (Below.trod laidOut (by kernel_rfl) (of_decide_eq_true (by kernel_rfl)) k1 bel lt1) (trodAll_cons_mk (Below.trod laidOut (by kernel_rfl) (of_decide_eq_true (by kernel_rfl)) k2 bel lt2) (trodAll_cons_mk (Below.trod laidOut (by kernel_rfl) (of_decide_eq_true (by kernel_rfl)) k3 bel lt3) (trodAll_cons_mk (shut_int Try.underlying3 w4) (trodAll_cons_mk (shut_int Try.underlying3 w5) trodAll_mk0)))))), rfl, bel.frame _, fun h => by cases h⟩

theorem named : Try.prog.funcNamed Rows.fnAddKeepsEarlierTemplatesRow.func = some 10 := by kernel_rfl
theorem inst : Try.f10.isInstance Try.prog Rows.fnAddKeepsEarlierTemplatesRow.origin Rows.fnAddKeepsEarlierTemplatesRow.targs := of_decide_eq_true (by kernel_rfl)
theorem wrap : Try.f10.isWrapper Try.prog Rows.fnAddKeepsEarlierTemplatesRow.wrapper Rows.fnAddKeepsEarlierTemplatesRow.mainSum := by
  unfold Func.isWrapper; rw [if_neg (by decide +kernel)]; exact ⟨rfl, rfl⟩

theorem over : Rows.fnAddKeepsEarlierTemplatesRow.holds Try.pinned (OpenSpec.ofChange Rows.fnAddKeepsEarlierTemplatesSpec) :=
  OpenClaim.holds_of_wide 10 Try.f10 rfl rfl rfl rfl rfl rfl rfl ⟨rfl, rfl, rfl, rfl, rfl⟩ rfl rfl rfl rfl rfl named Try.func10 closed
    inst wrap
    (fun os started H enc _ => lifted os started H enc)

theorem proved : Rows.FnAddKeepsEarlierTemplatesSaid := over
#print axioms proved
end Go.Proofs.Qxb6001154a.fnAddKeepsEarlierTemplates
