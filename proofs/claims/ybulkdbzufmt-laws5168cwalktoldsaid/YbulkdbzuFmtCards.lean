/-
  DERIVED. GIVEN WITH THE SEED: THE CARDS: each row of YbulkdbzuFmtRows.lean that lists a variable, with what it lists TIED to the program's text (the seventh form; the later family's looks); each row that meets fmt, with fmt's text TOLD by the authors' own Lean function (tested against real Go, not proved from fmt's source: count such statements apart). THE CARD IS WHAT COUNTS. Prove the row's statement (the work); the ties are given (YbulkdbzuFmtTie.lean); close each card by the builder's one call (the guide's Derived/Test/ToyasCard.lean, 'card_holds'). Laid BY PROGRAM, IN A SANDBOX (cutbox-door.mjs). By AI agents, Wed Nov 11 2026. No macro, syntax, notation, axiom, sorry.
-/
import Derived.Test.YbulkdbzuFmtRows
import GoSem.ClaimSeven
namespace Go.Proofs.YbulkdbzuFmt
namespace Rows

/-- THE TOLD AND TIED CARD OF 'notation.LawS5168CWalk'. -/
def lawS5168CWalkCard : Claim7 := { stood := { row := lawS5168CWalkRow, standIns := [], harness := (true, "5f9ef2bd293712ccd55d4d650e01e9d63a54a2854fc2675536d3a636ce6387d7"), looks := true }, told := true, laidByText := true, laidKinds := [.sentinel], laidTests := true, laidLooks := .later, goes := false }
def LawS5168CWalkToldSaid : Prop := Claim7.holds Ybaf.pinned (.plain (OpenSpec.ofChange lawS5168CWalkSpec)) lawS5168CWalkCard
/-- ITS FALSE NEIGHBOUR. Refute it at one input. -/
def LawS5168CWalkToldWrongFalsely : Prop := Claim7.holds Ybaf.pinned (.plain (OpenSpec.ofChange lawS5168CWalkWrong)) lawS5168CWalkCard

/-- THE TOLD AND TIED CARD OF 'notation.LawS5168CFail'. -/
def lawS5168CFailCard : Claim7 := { stood := { row := lawS5168CFailRow, standIns := [], harness := (true, "5f9ef2bd293712ccd55d4d650e01e9d63a54a2854fc2675536d3a636ce6387d7"), looks := true }, told := true, laidByText := true, laidKinds := [.sentinel], laidTests := true, laidLooks := .later, goes := false }
def LawS5168CFailToldSaid : Prop := Claim7.holds Ybaf.pinned (.plain (OpenSpec.ofChange lawS5168CFailSpec)) lawS5168CFailCard
/-- ITS FALSE NEIGHBOUR. Refute it at one input. -/
def LawS5168CFailToldWrongFalsely : Prop := Claim7.holds Ybaf.pinned (.plain (OpenSpec.ofChange lawS5168CFailWrong)) lawS5168CFailCard
end Rows
end Go.Proofs.YbulkdbzuFmt
