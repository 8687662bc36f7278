import Derived.Test.Qxb6001154aClosed
import Derived.Test.Qxb6001154aHead
namespace Go.Proofs.Qxb6001154a.fnMatchBindsEachWildcardDecoded
open Go
theorem fact0 : Fact0 Try.prog 7 Try.f7 Rows.fnMatchBindsEachWildcardDecodedSpec Rows.fnMatchBindsEachWildcardDecodedRow = true := by kernel_rfl
theorem fact1 : Fact1 Try.prog 7 Try.f7 Rows.fnMatchBindsEachWildcardDecodedSpec Rows.fnMatchBindsEachWildcardDecodedRow = true := by kernel_rfl
theorem fact2 : Fact2 Try.prog 7 Try.f7 Rows.fnMatchBindsEachWildcardDecodedSpec Rows.fnMatchBindsEachWildcardDecodedRow = true := by kernel_rfl
theorem fact3 : Fact3 Try.prog 7 Try.f7 Rows.fnMatchBindsEachWildcardDecodedSpec Rows.fnMatchBindsEachWildcardDecodedRow = true := by kernel_rfl
theorem fact4 : Fact4 Try.prog 7 Try.f7 Rows.fnMatchBindsEachWildcardDecodedSpec Rows.fnMatchBindsEachWildcardDecodedRow = true := by kernel_rfl
theorem fact5 : Fact5 Try.prog 7 Try.f7 Rows.fnMatchBindsEachWildcardDecodedSpec Rows.fnMatchBindsEachWildcardDecodedRow = true := by kernel_rfl
theorem fact6 : Fact6 Try.prog 7 Try.f7 Rows.fnMatchBindsEachWildcardDecodedSpec Rows.fnMatchBindsEachWildcardDecodedRow = true := by kernel_rfl
theorem fact7 : Fact7 Try.prog 7 Try.f7 Rows.fnMatchBindsEachWildcardDecodedSpec Rows.fnMatchBindsEachWildcardDecodedRow = true := by kernel_rfl
theorem fact8 : Fact8 Try.prog 7 Try.f7 Rows.fnMatchBindsEachWildcardDecodedSpec Rows.fnMatchBindsEachWildcardDecodedRow = true := by kernel_rfl
theorem fact9 : Fact9 Try.prog 7 Try.f7 Rows.fnMatchBindsEachWildcardDecodedSpec Rows.fnMatchBindsEachWildcardDecodedRow = true := by kernel_rfl
theorem fact10 : Fact10 Try.prog 7 Try.f7 Rows.fnMatchBindsEachWildcardDecodedSpec Rows.fnMatchBindsEachWildcardDecodedRow = true := by kernel_rfl
theorem fact11 : Fact11 Try.prog 7 Try.f7 Rows.fnMatchBindsEachWildcardDecodedSpec Rows.fnMatchBindsEachWildcardDecodedRow = true := by kernel_rfl
theorem fact12 : Fact12 Try.prog 7 Try.f7 Rows.fnMatchBindsEachWildcardDecodedSpec Rows.fnMatchBindsEachWildcardDecodedRow = true := by kernel_rfl
theorem fact13 : Fact13 Try.prog 7 Try.f7 Rows.fnMatchBindsEachWildcardDecodedSpec Rows.fnMatchBindsEachWildcardDecodedRow = true := by kernel_rfl
theorem fact14 : Fact14 Try.prog 7 Try.f7 Rows.fnMatchBindsEachWildcardDecodedSpec Rows.fnMatchBindsEachWildcardDecodedRow = true := by kernel_rfl
theorem fact15 : Fact15 Try.prog 7 Try.f7 Rows.fnMatchBindsEachWildcardDecodedSpec Rows.fnMatchBindsEachWildcardDecodedRow = true := by kernel_rfl
theorem fact16 : Fact16 Try.prog 7 Try.f7 Rows.fnMatchBindsEachWildcardDecodedSpec Rows.fnMatchBindsEachWildcardDecodedRow = true := by kernel_rfl
theorem fact17 : Fact17 Try.prog 7 Try.f7 Rows.fnMatchBindsEachWildcardDecodedSpec Rows.fnMatchBindsEachWildcardDecodedRow = true := by kernel_rfl
theorem fact18 : Fact18 Try.prog 7 Try.f7 Rows.fnMatchBindsEachWildcardDecodedSpec Rows.fnMatchBindsEachWildcardDecodedRow = true := by kernel_rfl
theorem fact19 : Fact19 Try.prog 7 Try.f7 Rows.fnMatchBindsEachWildcardDecodedSpec Rows.fnMatchBindsEachWildcardDecodedRow = true := by kernel_rfl
theorem fact20 : Fact20 Try.prog 7 Try.f7 Rows.fnMatchBindsEachWildcardDecodedSpec Rows.fnMatchBindsEachWildcardDecodedRow = true := by kernel_rfl
theorem fact21 : Fact21 Try.prog 7 Try.f7 Rows.fnMatchBindsEachWildcardDecodedSpec Rows.fnMatchBindsEachWildcardDecodedRow = true := by kernel_rfl
theorem fact22 : Fact22 Try.prog 7 Try.f7 Rows.fnMatchBindsEachWildcardDecodedSpec Rows.fnMatchBindsEachWildcardDecodedRow = true := by kernel_rfl
theorem fact23 : Fact23 Try.prog 7 Try.f7 Rows.fnMatchBindsEachWildcardDecodedSpec Rows.fnMatchBindsEachWildcardDecodedRow = true := by kernel_rfl
theorem fact24 : Fact24 Try.prog 7 Try.f7 Rows.fnMatchBindsEachWildcardDecodedSpec Rows.fnMatchBindsEachWildcardDecodedRow = true := by kernel_rfl
theorem fact25 : Fact25 Try.prog 7 Try.f7 Rows.fnMatchBindsEachWildcardDecodedSpec Rows.fnMatchBindsEachWildcardDecodedRow = true := Head.mayEnter
theorem fact26 : Fact26 Try.prog 7 Try.f7 Rows.fnMatchBindsEachWildcardDecodedSpec Rows.fnMatchBindsEachWildcardDecodedRow = true := by unfold Fact26; rw [Head.notFinal]; kernel_rfl
theorem fact27 : Fact27 Try.prog 7 Try.f7 Rows.fnMatchBindsEachWildcardDecodedSpec Rows.fnMatchBindsEachWildcardDecodedRow = true := by unfold Fact27; rw [Head.make]; kernel_rfl
theorem fact28 : Fact28 Try.prog 7 Try.f7 Rows.fnMatchBindsEachWildcardDecodedSpec Rows.fnMatchBindsEachWildcardDecodedRow = true := by kernel_rfl
theorem fact29 : Fact29 Try.prog 7 Try.f7 Rows.fnMatchBindsEachWildcardDecodedSpec Rows.fnMatchBindsEachWildcardDecodedRow = true := by kernel_rfl
theorem fact30 : Fact30 Try.prog 7 Try.f7 Rows.fnMatchBindsEachWildcardDecodedSpec Rows.fnMatchBindsEachWildcardDecodedRow = true := by kernel_rfl
theorem fact31 : Fact31 Try.prog 7 Try.f7 Rows.fnMatchBindsEachWildcardDecodedSpec Rows.fnMatchBindsEachWildcardDecodedRow = true := by kernel_rfl
theorem closed : joinedFacts Try.prog 7 Try.f7 Rows.fnMatchBindsEachWildcardDecodedSpec Rows.fnMatchBindsEachWildcardDecodedRow = true :=
  closed_of Try.prog 7 Try.f7 Rows.fnMatchBindsEachWildcardDecodedSpec Rows.fnMatchBindsEachWildcardDecodedRow fact0 fact1 fact2 fact3 fact4 fact5 fact6 fact7 fact8 fact9 fact10 fact11 fact12 fact13 fact14 fact15 fact16 fact17 fact18 fact19 fact20 fact21 fact22 fact23 fact24 fact25 fact26 fact27 fact28 fact29 fact30 fact31
end Go.Proofs.Qxb6001154a.fnMatchBindsEachWildcardDecoded
