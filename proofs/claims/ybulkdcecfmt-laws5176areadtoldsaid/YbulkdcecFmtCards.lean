/-
  DERIVED. GIVEN WITH THE SEED: THE CARDS: each row of YbulkdcecFmtRows.lean that lists a variable, with what it lists TIED to the program's text (the seventh form; the later family's looks); each row that meets fmt, with fmt's text TOLD by the authors' own Lean function (tested against real Go, not proved from fmt's source: count such statements apart). THE CARD IS WHAT COUNTS. Prove the row's statement (the work); the ties are given (YbulkdcecFmtTie.lean); close each card by the builder's one call (the guide's Derived/Test/ToyasCard.lean, 'card_holds'). Laid BY PROGRAM, IN A SANDBOX (cutbox-door.mjs). By AI agents, Wed Nov 11 2026. No macro, syntax, notation, axiom, sorry.
-/
import Derived.Test.YbulkdcecFmtRows
import GoSem.ClaimSeven
namespace Go.Proofs.YbulkdcecFmt
namespace Rows

/-- THE TOLD AND TIED CARD OF 'hashkeep.LawS5176ARead'. -/
def lawS5176AReadCard : Claim7 := { stood := { row := lawS5176AReadRow, standIns := [], harness := (true, "68bd57afa42e4f49f9b6dd9f82157f39ca3661e365121038ebada6beffabfc46"), looks := true }, told := true, laidByText := true, laidKinds := [.sentinel, .sentinel, .sentinel, .sentinel], laidTests := true, laidLooks := .later, goes := false }
def LawS5176AReadToldSaid : Prop := Claim7.holds Ybaf.pinned (.plain (OpenSpec.ofChange lawS5176AReadSpec)) lawS5176AReadCard
/-- ITS FALSE NEIGHBOUR. Refute it at one input. -/
def LawS5176AReadToldWrongFalsely : Prop := Claim7.holds Ybaf.pinned (.plain (OpenSpec.ofChange lawS5176AReadWrong)) lawS5176AReadCard
end Rows
end Go.Proofs.YbulkdcecFmt
