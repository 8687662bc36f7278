import Derived.JoinedOf
import Derived.KernelRfl
namespace Go.Proofs.Qxb6001154a
open Go
set_option linter.unusedVariables false
theorem and2 {a b : Bool} (h : a = true) (k : b = true) : (a && b) = true := by rw [h, k]; rfl
def Fact0 (P : Program) (f : FuncId) (fn : Func) (s : ChangeSpec) (c : OpenClaim) : Bool := c.wf (OpenSpec.ofChange s)
def Fact1 (P : Program) (f : FuncId) (fn : Func) (s : ChangeSpec) (c : OpenClaim) : Bool := laidOutB P
def Fact2 (P : Program) (f : FuncId) (fn : Func) (s : ChangeSpec) (c : OpenClaim) : Bool := mapsRowed P
def Fact3 (P : Program) (f : FuncId) (fn : Func) (s : ChangeSpec) (c : OpenClaim) : Bool := fn.params.all (P.readableRec ·)
def Fact4 (P : Program) (f : FuncId) (fn : Func) (s : ChangeSpec) (c : OpenClaim) : Bool := namedTie P c.named s.vars
def Fact5 (P : Program) (f : FuncId) (fn : Func) (s : ChangeSpec) (c : OpenClaim) : Bool := (c.stops == [])
def Fact6 (P : Program) (f : FuncId) (fn : Func) (s : ChangeSpec) (c : OpenClaim) : Bool := (P.stops == [])
def Fact7 (P : Program) (f : FuncId) (fn : Func) (s : ChangeSpec) (c : OpenClaim) : Bool := (c.knobs == [])
def Fact8 (P : Program) (f : FuncId) (fn : Func) (s : ChangeSpec) (c : OpenClaim) : Bool := (P.stopKnobs == [])
def Fact9 (P : Program) (f : FuncId) (fn : Func) (s : ChangeSpec) (c : OpenClaim) : Bool := (c.inPlace == P.inPlace f)
def Fact10 (P : Program) (f : FuncId) (fn : Func) (s : ChangeSpec) (c : OpenClaim) : Bool := (c.unfollowed == P.unfollowed f)
def Fact11 (P : Program) (f : FuncId) (fn : Func) (s : ChangeSpec) (c : OpenClaim) : Bool := (c.recurses == P.recurses f)
def Fact12 (P : Program) (f : FuncId) (fn : Func) (s : ChangeSpec) (c : OpenClaim) : Bool := (c.named == P.varsNamed f)
def Fact13 (P : Program) (f : FuncId) (fn : Func) (s : ChangeSpec) (c : OpenClaim) : Bool := (c.maps == (fn.params.toList ++ s.plain.varTypes P).any (P.mapsRec ·))
def Fact14 (P : Program) (f : FuncId) (fn : Func) (s : ChangeSpec) (c : OpenClaim) : Bool := (c.ifaces == (fn.params.toList ++ s.plain.varTypes P).any (P.ifacesRec ·))
def Fact15 (P : Program) (f : FuncId) (fn : Func) (s : ChangeSpec) (c : OpenClaim) : Bool := (c.mapsOut == P.mapsAmong fn.resultTypes.toList)
def Fact16 (P : Program) (f : FuncId) (fn : Func) (s : ChangeSpec) (c : OpenClaim) : Bool := (c.loops == (fn.params.toList ++ s.plain.varTypes P).any (P.loopsFrom ·))
def Fact17 (P : Program) (f : FuncId) (fn : Func) (s : ChangeSpec) (c : OpenClaim) : Bool := (c.wideKeys == (fn.params.toList ++ s.plain.varTypes P ++ fn.resultTypes.toList).any (P.wideKeysFrom ·))
def Fact18 (P : Program) (f : FuncId) (fn : Func) (s : ChangeSpec) (c : OpenClaim) : Bool := s.vars.all (P.varReadable ·)
def Fact19 (P : Program) (f : FuncId) (fn : Func) (s : ChangeSpec) (c : OpenClaim) : Bool := fn.resultTypes.all (fun t => P.readableRec t && decide (t < P.types.size))
def Fact20 (P : Program) (f : FuncId) (fn : Func) (s : ChangeSpec) (c : OpenClaim) : Bool := (c.ifacesOut == fn.resultTypes.toList.any (P.ifacesRec ·))
def Fact21 (P : Program) (f : FuncId) (fn : Func) (s : ChangeSpec) (c : OpenClaim) : Bool := (c.loopsOut == fn.resultTypes.toList.any (P.loopsFrom ·))
def Fact22 (P : Program) (f : FuncId) (fn : Func) (s : ChangeSpec) (c : OpenClaim) : Bool := (c.plainKeys == P.plainKeys)
def Fact23 (P : Program) (f : FuncId) (fn : Func) (s : ChangeSpec) (c : OpenClaim) : Bool := c.shortTexts.isNone
def Fact24 (P : Program) (f : FuncId) (fn : Func) (s : ChangeSpec) (c : OpenClaim) : Bool := P.stopsHeard
def Fact25 (P : Program) (f : FuncId) (fn : Func) (s : ChangeSpec) (c : OpenClaim) : Bool := P.mayEnter
def Fact26 (P : Program) (f : FuncId) (fn : Func) (s : ChangeSpec) (c : OpenClaim) : Bool := (c.lifted == P.liftsFinal)
def Fact27 (P : Program) (f : FuncId) (fn : Func) (s : ChangeSpec) (c : OpenClaim) : Bool := (P.make == some c.make)
def Fact28 (P : Program) (f : FuncId) (fn : Func) (s : ChangeSpec) (c : OpenClaim) : Bool := (c.kinds == (if c.domain.isEmpty then [] else fn.params.toList.map fun t => match P.underlying t with | some (.int k) => some k | _ => none))
def Fact29 (P : Program) (f : FuncId) (fn : Func) (s : ChangeSpec) (c : OpenClaim) : Bool := (c.pinned == c.pinnedBy)
def Fact30 (P : Program) (f : FuncId) (fn : Func) (s : ChangeSpec) (c : OpenClaim) : Bool := (c.veiled == (fn.params.toList ++ s.plain.varTypes P ++ fn.resultTypes.toList).any (P.veiledRec ·))
def Fact31 (P : Program) (f : FuncId) (fn : Func) (s : ChangeSpec) (c : OpenClaim) : Bool := c.veiledFits P fn.params.toList (fn.params.toList ++ s.plain.varTypes P ++ fn.resultTypes.toList)
theorem closed_of (P : Program) (f : FuncId) (fn : Func) (s : ChangeSpec) (c : OpenClaim) (h0 : Fact0 P f fn s c = true) (h1 : Fact1 P f fn s c = true) (h2 : Fact2 P f fn s c = true) (h3 : Fact3 P f fn s c = true) (h4 : Fact4 P f fn s c = true) (h5 : Fact5 P f fn s c = true) (h6 : Fact6 P f fn s c = true) (h7 : Fact7 P f fn s c = true) (h8 : Fact8 P f fn s c = true) (h9 : Fact9 P f fn s c = true) (h10 : Fact10 P f fn s c = true) (h11 : Fact11 P f fn s c = true) (h12 : Fact12 P f fn s c = true) (h13 : Fact13 P f fn s c = true) (h14 : Fact14 P f fn s c = true) (h15 : Fact15 P f fn s c = true) (h16 : Fact16 P f fn s c = true) (h17 : Fact17 P f fn s c = true) (h18 : Fact18 P f fn s c = true) (h19 : Fact19 P f fn s c = true) (h20 : Fact20 P f fn s c = true) (h21 : Fact21 P f fn s c = true) (h22 : Fact22 P f fn s c = true) (h23 : Fact23 P f fn s c = true) (h24 : Fact24 P f fn s c = true) (h25 : Fact25 P f fn s c = true) (h26 : Fact26 P f fn s c = true) (h27 : Fact27 P f fn s c = true) (h28 : Fact28 P f fn s c = true) (h29 : Fact29 P f fn s c = true) (h30 : Fact30 P f fn s c = true) (h31 : Fact31 P f fn s c = true) : joinedFacts P f fn s c = true := by
  unfold joinedFacts
  exact (and2 (and2 (and2 (and2 (and2 (and2 (and2 (and2 (and2 (and2 (and2 (and2 (and2 (and2 (and2 (and2 (and2 (and2 (and2 (and2 (and2 (and2 (and2 (and2 (and2 (and2 (and2 (and2 (and2 (and2 (and2 h0 h1) h2) h3) h4) h5) h6) h7) h8) h9) h10) h11) h12) h13) h14) h15) h16) h17) h18) h19) h20) h21) h22) h23) h24) h25) h26) h27) h28) h29) h30) h31)
end Go.Proofs.Qxb6001154a
