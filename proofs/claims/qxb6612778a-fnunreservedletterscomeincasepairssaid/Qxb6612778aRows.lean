/-
  No cell of these rows narrows 'for every input' (looked for: loops, veiled, ifaces, maps, wideKeys, modest, calm, conditions, laid).
  DERIVED. THE GIVEN ROWS OF THIS SEAT. 2 by the template 'for every input the law returns true; each argument reads behind the call as it read before'; 0 by the template 'total and deterministic' (their statements: Qxb6612778aTotals.lean).
  GIVEN WITH THE SEED: the statements are not yours to turn. If you find one false, say at which input.
  Laid BY PROGRAM, IN A SANDBOX (cutbox-rows.mjs): the forced cells as the released guide's own fill.sh prints them over the translation 0acdd807f0449bfa… (all of the seat's roots in one cut). By AI agents, Wed Nov 11 2026. No macro, syntax, notation, axiom, sorry.
-/
import Derived.Test.Qxb6612778aChecked
import GoSem.Claim
import GoSem.ClaimJoined
import GoSem.ClaimMapViews
import Derived.JoinedTies
import Derived.KernelRfl
namespace Go.Proofs.Qxb6612778a
/- THE CELL 'sum', in the pinned program and in every row, IS THE sha256 OF THE DUMP (.gsa) THAT Qxb6612778aProg.lean LOADS. Nothing in Lean hashes anything: it is a label: what it is worth is what the hold of that sum in a sandbox is worth. -/
noncomputable def Try.pinned : Pinned := { name := "qxb6612778a", sum := "0acdd807f0449bfaf1e6735812f22d094d26d0b63e0982d6766291ff84712089", checked := Try.checked }
namespace Rows
def none {H : Type} : Left H := { results := [], args := [] }

/-- 'zzlaws_internal_chain_b1.FnUnreservedLettersComeInCasePairs': WHATEVER THE INPUT: true; the input reads as it did. -/
def fnUnreservedLettersComeInCasePairsSpec : ChangeSpec := { name := "fnUnreservedLettersComeInCasePairs", fn := fun _ => fun
  | [d] => { results := [.lit (.bool true)], args := [d] }
  | _ => none }
def fnUnreservedLettersComeInCasePairsRow : OpenClaim := { program := "qxb6612778a", sum := "0acdd807f0449bfaf1e6735812f22d094d26d0b63e0982d6766291ff84712089", func := "example.com/phidippides/phidippides/zzlaws_internal_chain_b1.FnUnreservedLettersComeInCasePairs", spec := "fnUnreservedLettersComeInCasePairs", inPlace := ["internal/bytealg.IndexByteString"], apart := false }
def FnUnreservedLettersComeInCasePairsSaid : Prop := fnUnreservedLettersComeInCasePairsRow.holds Try.pinned (OpenSpec.ofChange fnUnreservedLettersComeInCasePairsSpec)

/-- ITS FALSE NEIGHBOUR: 'it returns false'. Refute it at one input. -/
def fnUnreservedLettersComeInCasePairsWrong : ChangeSpec := { name := "fnUnreservedLettersComeInCasePairs", fn := fun _ => fun
  | [d] => { results := [.lit (.bool false)], args := [d] }
  | _ => none }
def FnUnreservedLettersComeInCasePairsWrongFalsely : Prop := fnUnreservedLettersComeInCasePairsRow.holds Try.pinned (OpenSpec.ofChange fnUnreservedLettersComeInCasePairsWrong)

/-- 'zzlaws_internal_chain_b1.FnUnreservedSixtySixASCIIBytes': WHATEVER THE INPUT: true; the input reads as it did. -/
def fnUnreservedSixtySixASCIIBytesSpec : ChangeSpec := { name := "fnUnreservedSixtySixASCIIBytes", fn := fun _ => fun
  | [d] => { results := [.lit (.bool true)], args := [d] }
  | _ => none }
def fnUnreservedSixtySixASCIIBytesRow : OpenClaim := { program := "qxb6612778a", sum := "0acdd807f0449bfaf1e6735812f22d094d26d0b63e0982d6766291ff84712089", func := "example.com/phidippides/phidippides/zzlaws_internal_chain_b1.FnUnreservedSixtySixASCIIBytes", spec := "fnUnreservedSixtySixASCIIBytes", inPlace := ["internal/bytealg.IndexByteString"], apart := false }
def FnUnreservedSixtySixASCIIBytesSaid : Prop := fnUnreservedSixtySixASCIIBytesRow.holds Try.pinned (OpenSpec.ofChange fnUnreservedSixtySixASCIIBytesSpec)

/-- ITS FALSE NEIGHBOUR: 'it returns false'. Refute it at one input. -/
def fnUnreservedSixtySixASCIIBytesWrong : ChangeSpec := { name := "fnUnreservedSixtySixASCIIBytes", fn := fun _ => fun
  | [d] => { results := [.lit (.bool false)], args := [d] }
  | _ => none }
def FnUnreservedSixtySixASCIIBytesWrongFalsely : Prop := fnUnreservedSixtySixASCIIBytesRow.holds Try.pinned (OpenSpec.ofChange fnUnreservedSixtySixASCIIBytesWrong)

end Rows
end Go.Proofs.Qxb6612778a
