/-
  DERIVED. GIVEN WITH THE SEED: THE CARDS: each row of YbulkdcaiFmtRows.lean that lists a variable, with what it lists TIED to the program's text (the seventh form; the later family's looks); each row that meets fmt, with fmt's text TOLD by the authors' own Lean function (tested against real Go, not proved from fmt's source: count such statements apart). THE CARD IS WHAT COUNTS. Prove the row's statement (the work); the ties are given (YbulkdcaiFmtTie.lean); close each card by the builder's one call (the guide's Derived/Test/ToyasCard.lean, 'card_holds'). Laid BY PROGRAM, IN A SANDBOX (cutbox-door.mjs). By AI agents, Wed Nov 11 2026. No macro, syntax, notation, axiom, sorry.
-/
import Derived.Test.YbulkdcaiFmtRows
import GoSem.ClaimSeven
namespace Go.Proofs.YbulkdcaiFmt
namespace Rows

/-- THE TOLD AND TIED CARD OF 'fields.LawS5169AModel'. -/
def lawS5169AModelCard : Claim7 := { stood := { row := lawS5169AModelRow, standIns := [], harness := (true, "1813f2ff80481d6b0467ea329080f6734438c444d4d878079156f7bb785795f6"), looks := false }, told := true, laidByText := true, laidKinds := [.data, .pinned], laidTests := true, laidLooks := .later, goes := false }
def LawS5169AModelToldSaid : Prop := Claim7.holds Ybaf.pinned (.plain (OpenSpec.ofChange lawS5169AModelSpec)) lawS5169AModelCard
/-- ITS FALSE NEIGHBOUR. Refute it at one input. -/
def LawS5169AModelToldWrongFalsely : Prop := Claim7.holds Ybaf.pinned (.plain (OpenSpec.ofChange lawS5169AModelWrong)) lawS5169AModelCard

/-- THE TOLD AND TIED CARD OF 'fields.LawS5169ASet'. -/
def lawS5169ASetCard : Claim7 := { stood := { row := lawS5169ASetRow, standIns := [], harness := (true, "1813f2ff80481d6b0467ea329080f6734438c444d4d878079156f7bb785795f6"), looks := false }, told := true, laidByText := true, laidKinds := [.data, .pinned], laidTests := true, laidLooks := .later, goes := false }
def LawS5169ASetToldSaid : Prop := Claim7.holds Ybaf.pinned (.plain (OpenSpec.ofChange lawS5169ASetSpec)) lawS5169ASetCard
/-- ITS FALSE NEIGHBOUR. Refute it at one input. -/
def LawS5169ASetToldWrongFalsely : Prop := Claim7.holds Ybaf.pinned (.plain (OpenSpec.ofChange lawS5169ASetWrong)) lawS5169ASetCard

/-- THE TOLD CARD OF 'dissect.LawS5169BExact'. -/
def lawS5169BExactCard : Claim7 := { stood := { row := lawS5169BExactRow, standIns := [], harness := (true, "1813f2ff80481d6b0467ea329080f6734438c444d4d878079156f7bb785795f6"), looks := false }, told := true, goes := false }
def LawS5169BExactToldSaid : Prop := Claim7.holds Ybaf.pinned (.plain (OpenSpec.ofChange lawS5169BExactSpec)) lawS5169BExactCard
/-- ITS FALSE NEIGHBOUR. Refute it at one input. -/
def LawS5169BExactToldWrongFalsely : Prop := Claim7.holds Ybaf.pinned (.plain (OpenSpec.ofChange lawS5169BExactWrong)) lawS5169BExactCard

/-- THE TOLD CARD OF 'dissect.LawS5169BBoundary'. -/
def lawS5169BBoundaryCard : Claim7 := { stood := { row := lawS5169BBoundaryRow, standIns := [], harness := (true, "1813f2ff80481d6b0467ea329080f6734438c444d4d878079156f7bb785795f6"), looks := false }, told := true, goes := false }
def LawS5169BBoundaryToldSaid : Prop := Claim7.holds Ybaf.pinned (.plain (OpenSpec.ofChange lawS5169BBoundarySpec)) lawS5169BBoundaryCard
/-- ITS FALSE NEIGHBOUR. Refute it at one input. -/
def LawS5169BBoundaryToldWrongFalsely : Prop := Claim7.holds Ybaf.pinned (.plain (OpenSpec.ofChange lawS5169BBoundaryWrong)) lawS5169BBoundaryCard
end Rows
end Go.Proofs.YbulkdcaiFmt
