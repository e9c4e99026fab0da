/-
  NARROWER THAN 'FOR EVERY INPUT', by the rows' own cells (each row's printed sentence says how): LawS5168CWalk: laid · LawS5168CFail: laid.
  DERIVED. THE GIVEN ROWS OF THIS SEAT. 2 by the template 'for every input the law returns true; each argument reads behind the call as it read before'; 0 by the template 'total and deterministic' (their statements: YbulkdbzuFmtTotals.lean).
  GIVEN WITH THE SEED: the statements are not yours to turn. If you find one false, say at which input.
  Laid BY PROGRAM, IN A SANDBOX (cutbox-rows.mjs): the forced cells as the released guide's own fill.sh prints them over the translation edb9c8095d2198da… (all of the seat's roots in one cut). By AI agents, Wed Nov 11 2026. No macro, syntax, notation, axiom, sorry.
-/
import Derived.Test.YbulkdbzuFmtChecked
import GoSem.Claim
import GoSem.ClaimJoined
import GoSem.ClaimMapViews
import Derived.JoinedTies
import Derived.KernelRfl
namespace Go.Proofs.YbulkdbzuFmt
/- THE CELL 'sum', in the pinned program and in every row, IS THE sha256 OF THE DUMP (.gsa) THAT YbulkdbzuFmtProg.lean LOADS. Nothing in Lean hashes anything: it is a label: what it is worth is what the hold of that sum in a sandbox is worth. -/
noncomputable def Ybaf.pinned : Pinned := { name := "ybulkdbzufmt", sum := "edb9c8095d2198daaf0fd929520eca8ada67b16869e7864226bdb45a6af0be39", checked := Ybaf.checked }
namespace Rows
def none {H : Type} : Left H := { results := [], args := [] }

/- WHAT THE LISTED PACKAGE-LEVEL VARIABLES READ AS WHEN THE CALL BEGINS. Each datum BY PROGRAM (the guide's laid-datum.mjs) off the statement by which the dump's own 'gosem.cut.vars' lays the variable. In a bare row this is a premise. The card (YbulkdbzuFmtCards.lean) ties it to the program's text. -/
def laid_io_EOF {H : Type} : DataW H := .iface "*errors.errorString" (.ptr (.agg [.lit (.string [69, 79, 70])]))

/-- 'notation.LawS5168CWalk': WHATEVER THE INPUT: true; the input reads as it did. -/
def lawS5168CWalkSpec : ChangeSpec := { name := "lawS5168CWalk", fn := fun _ => fun
  | [d1, d2, d3, d4, d5, d6, d7] => { results := [.lit (.bool true)], args := [d1, d2, d3, d4, d5, d6, d7] }
  | _ => none }
def lawS5168CWalkRow : OpenClaim := { program := "ybulkdbzufmt", sum := "edb9c8095d2198daaf0fd929520eca8ada67b16869e7864226bdb45a6af0be39", func := "example.com/typeweft/typeweft/notation.LawS5168CWalk", spec := "lawS5168CWalk", stops := ["fmt.Sprintf, its operands' methods called"], inPlace := ["fmt.Sprintf"], unfollowed := true, recurses := true, named := ["io.EOF"], apart := false, laid := [("io.EOF", laid_io_EOF)] }
/-- NO THEOREM (fmt's text is open here; it may be false): for the released tool's asking of the row's closed facts alone. THE STATEMENT IS 'LawS5168CWalkToldSaid' (YbulkdbzuFmtCards.lean). -/
def LawS5168CWalkFormAsk : Prop := lawS5168CWalkRow.holds Ybaf.pinned (OpenSpec.ofChange lawS5168CWalkSpec)

/-- ITS FALSE NEIGHBOUR: 'it returns false'. Refute it at one input. -/
def lawS5168CWalkWrong : ChangeSpec := { name := "lawS5168CWalk", fn := fun _ => fun
  | [d1, d2, d3, d4, d5, d6, d7] => { results := [.lit (.bool false)], args := [d1, d2, d3, d4, d5, d6, d7] }
  | _ => none }
def LawS5168CWalkWrongFormAsk : Prop := lawS5168CWalkRow.holds Ybaf.pinned (OpenSpec.ofChange lawS5168CWalkWrong)

/-- 'notation.LawS5168CFail': WHATEVER THE INPUT: true; the input reads as it did. -/
def lawS5168CFailSpec : ChangeSpec := { name := "lawS5168CFail", fn := fun _ => fun
  | [d1, d2, d3, d4, d5, d6] => { results := [.lit (.bool true)], args := [d1, d2, d3, d4, d5, d6] }
  | _ => none }
def lawS5168CFailRow : OpenClaim := { program := "ybulkdbzufmt", sum := "edb9c8095d2198daaf0fd929520eca8ada67b16869e7864226bdb45a6af0be39", func := "example.com/typeweft/typeweft/notation.LawS5168CFail", spec := "lawS5168CFail", stops := ["fmt.Sprintf, its operands' methods called"], inPlace := ["fmt.Sprintf"], unfollowed := true, recurses := true, named := ["io.EOF"], apart := false, laid := [("io.EOF", laid_io_EOF)] }
/-- NO THEOREM (fmt's text is open here; it may be false): for the released tool's asking of the row's closed facts alone. THE STATEMENT IS 'LawS5168CFailToldSaid' (YbulkdbzuFmtCards.lean). -/
def LawS5168CFailFormAsk : Prop := lawS5168CFailRow.holds Ybaf.pinned (OpenSpec.ofChange lawS5168CFailSpec)

/-- ITS FALSE NEIGHBOUR: 'it returns false'. Refute it at one input. -/
def lawS5168CFailWrong : ChangeSpec := { name := "lawS5168CFail", fn := fun _ => fun
  | [d1, d2, d3, d4, d5, d6] => { results := [.lit (.bool false)], args := [d1, d2, d3, d4, d5, d6] }
  | _ => none }
def LawS5168CFailWrongFormAsk : Prop := lawS5168CFailRow.holds Ybaf.pinned (OpenSpec.ofChange lawS5168CFailWrong)

end Rows
end Go.Proofs.YbulkdbzuFmt
