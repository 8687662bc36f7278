/-
  DERIVED. GIVEN WITH THE SEED: THE CARDS: each row of Qxb6612460aGreatFmtRows.lean that lists a variable, with what it lists TIED to the program's text (the seventh form; the later family's looks); each row that meets fmt, with fmt's text TOLD by the authors' own Lean function (tested against real Go, not proved from fmt's source: count such statements apart). THE CARD IS WHAT COUNTS. Prove the row's statement (the work); the ties are given (Qxb6612460aGreatFmtTie.lean); close each card by the builder's one call (the guide's Derived/Test/ToyasCard.lean, 'card_holds'). Laid BY PROGRAM, IN A SANDBOX (cutbox-door.mjs). By AI agents, Wed Nov 11 2026. No macro, syntax, notation, axiom, sorry.
-/
import Derived.Test.Qxb6612460aGreatFmtRows
import GoSem.ClaimSeven
namespace Go.Proofs.Qxb6612460aGreatFmt
namespace Rows

/-- THE TOLD AND TIED CARD OF 'zzlaws_internal_alloc_b1.FnShelfChooseFirstFit'. -/
def fnShelfChooseFirstFitCard : Claim7 := { stood := { row := fnShelfChooseFirstFitRow, standIns := [], harness := (true, "6acc4c909af5700051a1f7cd846c2e0b5ca602764d16edb7c3521ed06ee39558"), looks := true }, told := true, laidByText := true, laidKinds := [.data, .data, .data, .sentinel, .sentinel], laidTests := true, laidLooks := .later, goes := false }
def FnShelfChooseFirstFitToldSaid : Prop := Claim7.holds Tryz.pinned (.plain (OpenSpec.ofChange fnShelfChooseFirstFitSpec)) fnShelfChooseFirstFitCard
/-- ITS FALSE NEIGHBOUR. Refute it at one input. -/
def FnShelfChooseFirstFitToldWrongFalsely : Prop := Claim7.holds Tryz.pinned (.plain (OpenSpec.ofChange fnShelfChooseFirstFitWrong)) fnShelfChooseFirstFitCard

/-- THE TOLD AND TIED CARD OF 'zzlaws_internal_alloc_b1.FnShelfChooseIslandsAndHealth'. -/
def fnShelfChooseIslandsAndHealthCard : Claim7 := { stood := { row := fnShelfChooseIslandsAndHealthRow, standIns := [], harness := (true, "6acc4c909af5700051a1f7cd846c2e0b5ca602764d16edb7c3521ed06ee39558"), looks := true }, told := true, laidByText := true, laidKinds := [.data, .data, .data, .sentinel, .sentinel], laidTests := true, laidLooks := .later, goes := false }
def FnShelfChooseIslandsAndHealthToldSaid : Prop := Claim7.holds Tryz.pinned (.plain (OpenSpec.ofChange fnShelfChooseIslandsAndHealthSpec)) fnShelfChooseIslandsAndHealthCard
/-- ITS FALSE NEIGHBOUR. Refute it at one input. -/
def FnShelfChooseIslandsAndHealthToldWrongFalsely : Prop := Claim7.holds Tryz.pinned (.plain (OpenSpec.ofChange fnShelfChooseIslandsAndHealthWrong)) fnShelfChooseIslandsAndHealthCard

/-- THE TOLD AND TIED CARD OF 'zzlaws_internal_alloc_b1.FnLedgerChooseFirstFitTwice'. -/
def fnLedgerChooseFirstFitTwiceCard : Claim7 := { stood := { row := fnLedgerChooseFirstFitTwiceRow, standIns := [], harness := (true, "6acc4c909af5700051a1f7cd846c2e0b5ca602764d16edb7c3521ed06ee39558"), looks := true }, told := true, laidByText := true, laidKinds := [.data, .data, .data, .sentinel, .sentinel], laidTests := true, laidLooks := .later, goes := false }
def FnLedgerChooseFirstFitTwiceToldSaid : Prop := Claim7.holds Tryz.pinned (.plain (OpenSpec.ofChange fnLedgerChooseFirstFitTwiceSpec)) fnLedgerChooseFirstFitTwiceCard
/-- ITS FALSE NEIGHBOUR. Refute it at one input. -/
def FnLedgerChooseFirstFitTwiceToldWrongFalsely : Prop := Claim7.holds Tryz.pinned (.plain (OpenSpec.ofChange fnLedgerChooseFirstFitTwiceWrong)) fnLedgerChooseFirstFitTwiceCard
end Rows
end Go.Proofs.Qxb6612460aGreatFmt
