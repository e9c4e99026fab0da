/-
  NARROWER THAN 'FOR EVERY INPUT', by the rows' own cells (each row's printed sentence says how): LawS5169AModel: laid · LawS5169ASet: laid.
  DERIVED. THE GIVEN ROWS OF THIS SEAT. 4 by the template 'for every input the law returns true; each argument reads behind the call as it read before'; 0 by the template 'total and deterministic' (their statements: YbulkdcaiFmtTotals.lean).
  GIVEN WITH THE SEED: the statements are not yours to turn. If you find one false, say at which input.
  Laid BY PROGRAM, IN A SANDBOX (cutbox-rows.mjs): the forced cells as the released guide's own fill.sh prints them over the translation e3e0d4bb2d5b8b54… (all of the seat's roots in one cut). By AI agents, Wed Nov 11 2026. No macro, syntax, notation, axiom, sorry.
-/
import Derived.Test.YbulkdcaiFmtChecked
import GoSem.PinnedTables
import GoSem.Claim
import GoSem.ClaimJoined
import GoSem.ClaimMapViews
import Derived.JoinedTies
import Derived.KernelRfl
namespace Go.Proofs.YbulkdcaiFmt
/- THE CELL 'sum', in the pinned program and in every row, IS THE sha256 OF THE DUMP (.gsa) THAT YbulkdcaiFmtProg.lean LOADS. Nothing in Lean hashes anything: it is a label: what it is worth is what the hold of that sum in a sandbox is worth. -/
noncomputable def Ybaf.pinned : Pinned := { name := "ybulkdcaifmt", sum := "e3e0d4bb2d5b8b54fe61f9d3f472f00bdf3d99145b1f766a0ae32d9e7adccb62", checked := Ybaf.checked }
namespace Rows
def none {H : Type} : Left H := { results := [], args := [] }

/- WHAT THE LISTED PACKAGE-LEVEL VARIABLES READ AS WHEN THE CALL BEGINS. Each datum BY PROGRAM (the guide's laid-datum.mjs) off the statement by which the dump's own 'gosem.cut.vars' lays the variable. In a bare row this is a premise. The card (YbulkdcaiFmtCards.lean) ties it to the program's text. -/
def laid_unicode_utf8_acceptRanges {H : Type} : DataW H := .agg [.agg [.lit (.int .u8 128), .lit (.int .u8 191)], .agg [.lit (.int .u8 160), .lit (.int .u8 191)], .agg [.lit (.int .u8 128), .lit (.int .u8 159)], .agg [.lit (.int .u8 144), .lit (.int .u8 191)], .agg [.lit (.int .u8 128), .lit (.int .u8 143)], .agg [.lit (.int .u8 0), .lit (.int .u8 0)], .agg [.lit (.int .u8 0), .lit (.int .u8 0)], .agg [.lit (.int .u8 0), .lit (.int .u8 0)], .agg [.lit (.int .u8 0), .lit (.int .u8 0)], .agg [.lit (.int .u8 0), .lit (.int .u8 0)], .agg [.lit (.int .u8 0), .lit (.int .u8 0)], .agg [.lit (.int .u8 0), .lit (.int .u8 0)], .agg [.lit (.int .u8 0), .lit (.int .u8 0)], .agg [.lit (.int .u8 0), .lit (.int .u8 0)], .agg [.lit (.int .u8 0), .lit (.int .u8 0)], .agg [.lit (.int .u8 0), .lit (.int .u8 0)]]
/-- One of Go's own tables, pinned by name: the form's constant. -/
def laid_unicode_utf8_first : DataW Unit := Go.Pinned.utf8First

/-- 'fields.LawS5169AModel': WHATEVER THE INPUT: true; the input reads as it did. -/
def lawS5169AModelSpec : ChangeSpec := { name := "lawS5169AModel", fn := fun _ => fun
  | [d1, d2, d3, d4] => { results := [.lit (.bool true)], args := [d1, d2, d3, d4] }
  | _ => none }
def lawS5169AModelRow : OpenClaim := { program := "ybulkdcaifmt", sum := "e3e0d4bb2d5b8b54fe61f9d3f472f00bdf3d99145b1f766a0ae32d9e7adccb62", func := "example.com/framelens/framelens/internal/fields.LawS5169AModel", spec := "lawS5169AModel", stops := ["fmt.errorf"], inPlace := ["fmt.errorf"], named := ["unicode/utf8.first", "unicode/utf8.acceptRanges"], apart := false, laid := [("unicode/utf8.acceptRanges", laid_unicode_utf8_acceptRanges), ("unicode/utf8.first", laid_unicode_utf8_first)] }
/-- NO THEOREM (fmt's text is open here; it may be false): for the released tool's asking of the row's closed facts alone. THE STATEMENT IS 'LawS5169AModelToldSaid' (YbulkdcaiFmtCards.lean). -/
def LawS5169AModelFormAsk : Prop := lawS5169AModelRow.holds Ybaf.pinned (OpenSpec.ofChange lawS5169AModelSpec)

/-- ITS FALSE NEIGHBOUR: 'it returns false'. Refute it at one input. -/
def lawS5169AModelWrong : ChangeSpec := { name := "lawS5169AModel", fn := fun _ => fun
  | [d1, d2, d3, d4] => { results := [.lit (.bool false)], args := [d1, d2, d3, d4] }
  | _ => none }
def LawS5169AModelWrongFormAsk : Prop := lawS5169AModelRow.holds Ybaf.pinned (OpenSpec.ofChange lawS5169AModelWrong)

/-- 'fields.LawS5169ASet': WHATEVER THE INPUT: true; the input reads as it did. -/
def lawS5169ASetSpec : ChangeSpec := { name := "lawS5169ASet", fn := fun _ => fun
  | [d1, d2, d3, d4] => { results := [.lit (.bool true)], args := [d1, d2, d3, d4] }
  | _ => none }
def lawS5169ASetRow : OpenClaim := { program := "ybulkdcaifmt", sum := "e3e0d4bb2d5b8b54fe61f9d3f472f00bdf3d99145b1f766a0ae32d9e7adccb62", func := "example.com/framelens/framelens/internal/fields.LawS5169ASet", spec := "lawS5169ASet", stops := ["fmt.errorf"], inPlace := ["internal/bytealg.IndexByteString", "internal/bytealg.IndexString", "internal/abi.NoEscape", "internal/bytealg.MakeNoZero", "fmt.errorf"], unfollowed := true, recurses := true, named := ["internal/bytealg.MaxLen", "unicode/utf8.first", "unicode/utf8.acceptRanges"], apart := false, laid := [("unicode/utf8.acceptRanges", laid_unicode_utf8_acceptRanges), ("unicode/utf8.first", laid_unicode_utf8_first)] }
/-- NO THEOREM (fmt's text is open here; it may be false): for the released tool's asking of the row's closed facts alone. THE STATEMENT IS 'LawS5169ASetToldSaid' (YbulkdcaiFmtCards.lean). -/
def LawS5169ASetFormAsk : Prop := lawS5169ASetRow.holds Ybaf.pinned (OpenSpec.ofChange lawS5169ASetSpec)

/-- ITS FALSE NEIGHBOUR: 'it returns false'. Refute it at one input. -/
def lawS5169ASetWrong : ChangeSpec := { name := "lawS5169ASet", fn := fun _ => fun
  | [d1, d2, d3, d4] => { results := [.lit (.bool false)], args := [d1, d2, d3, d4] }
  | _ => none }
def LawS5169ASetWrongFormAsk : Prop := lawS5169ASetRow.holds Ybaf.pinned (OpenSpec.ofChange lawS5169ASetWrong)

/-- 'dissect.LawS5169BExact': WHATEVER THE INPUT: true; the input reads as it did. -/
def lawS5169BExactSpec : ChangeSpec := { name := "lawS5169BExact", fn := fun _ => fun
  | [d1, d2] => { results := [.lit (.bool true)], args := [d1, d2] }
  | _ => none }
def lawS5169BExactRow : OpenClaim := { program := "ybulkdcaifmt", sum := "e3e0d4bb2d5b8b54fe61f9d3f472f00bdf3d99145b1f766a0ae32d9e7adccb62", func := "example.com/framelens/framelens/internal/dissect.LawS5169BExact", spec := "lawS5169BExact", stops := ["fmt.errorf"], inPlace := ["fmt.errorf"], apart := false }
/-- NO THEOREM (fmt's text is open here; it may be false): for the released tool's asking of the row's closed facts alone. THE STATEMENT IS 'LawS5169BExactToldSaid' (YbulkdcaiFmtCards.lean). -/
def LawS5169BExactFormAsk : Prop := lawS5169BExactRow.holds Ybaf.pinned (OpenSpec.ofChange lawS5169BExactSpec)

/-- ITS FALSE NEIGHBOUR: 'it returns false'. Refute it at one input. -/
def lawS5169BExactWrong : ChangeSpec := { name := "lawS5169BExact", fn := fun _ => fun
  | [d1, d2] => { results := [.lit (.bool false)], args := [d1, d2] }
  | _ => none }
def LawS5169BExactWrongFormAsk : Prop := lawS5169BExactRow.holds Ybaf.pinned (OpenSpec.ofChange lawS5169BExactWrong)

/-- 'dissect.LawS5169BBoundary': WHATEVER THE INPUT: true; the input reads as it did. -/
def lawS5169BBoundarySpec : ChangeSpec := { name := "lawS5169BBoundary", fn := fun _ => fun
  | [d1, d2] => { results := [.lit (.bool true)], args := [d1, d2] }
  | _ => none }
def lawS5169BBoundaryRow : OpenClaim := { program := "ybulkdcaifmt", sum := "e3e0d4bb2d5b8b54fe61f9d3f472f00bdf3d99145b1f766a0ae32d9e7adccb62", func := "example.com/framelens/framelens/internal/dissect.LawS5169BBoundary", spec := "lawS5169BBoundary", stops := ["fmt.errorf"], inPlace := ["fmt.errorf"], apart := false }
/-- NO THEOREM (fmt's text is open here; it may be false): for the released tool's asking of the row's closed facts alone. THE STATEMENT IS 'LawS5169BBoundaryToldSaid' (YbulkdcaiFmtCards.lean). -/
def LawS5169BBoundaryFormAsk : Prop := lawS5169BBoundaryRow.holds Ybaf.pinned (OpenSpec.ofChange lawS5169BBoundarySpec)

/-- ITS FALSE NEIGHBOUR: 'it returns false'. Refute it at one input. -/
def lawS5169BBoundaryWrong : ChangeSpec := { name := "lawS5169BBoundary", fn := fun _ => fun
  | [d1, d2] => { results := [.lit (.bool false)], args := [d1, d2] }
  | _ => none }
def LawS5169BBoundaryWrongFormAsk : Prop := lawS5169BBoundaryRow.holds Ybaf.pinned (OpenSpec.ofChange lawS5169BBoundaryWrong)

end Rows
end Go.Proofs.YbulkdcaiFmt
