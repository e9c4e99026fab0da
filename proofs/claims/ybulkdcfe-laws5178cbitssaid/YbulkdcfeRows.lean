/-
  No cell of these rows narrows 'for every input' (looked for: loops, veiled, ifaces, maps, wideKeys, modest, calm, conditions, laid).
  DERIVED. THE GIVEN ROWS OF THIS SEAT. 1 by the template 'for every input the law returns true; each argument reads behind the call as it read before'; 0 by the template 'total and deterministic' (their statements: YbulkdcfeTotals.lean).
  GIVEN WITH THE SEED: the statements are not yours to turn. If you find one false, say at which input.
  Laid BY PROGRAM, IN A SANDBOX (cutbox-rows.mjs): the forced cells as the released guide's own fill.sh prints them over the translation 290c815f33dea2de… (all of the seat's roots in one cut). By AI agents, Wed Nov 11 2026. No macro, syntax, notation, axiom, sorry.
-/
import Derived.Test.YbulkdcfeChecked
import GoSem.Claim
import GoSem.ClaimJoined
import GoSem.ClaimMapViews
import Derived.JoinedTies
import Derived.KernelRfl
namespace Go.Proofs.Ybulkdcfe
/- THE CELL 'sum', in the pinned program and in every row, IS THE sha256 OF THE DUMP (.gsa) THAT YbulkdcfeProg.lean LOADS. Nothing in Lean hashes anything: it is a label: what it is worth is what the hold of that sum in a sandbox is worth. -/
noncomputable def Yba.pinned : Pinned := { name := "ybulkdcfe", sum := "290c815f33dea2de510b02cd801d7a888e61023eae3a7d7dac42d45f07844482", checked := Yba.checked }
namespace Rows
def none {H : Type} : Left H := { results := [], args := [] }

/-- 'library.LawS5178CBits': WHATEVER THE INPUT: true; the input reads as it did. -/
def lawS5178CBitsSpec : ChangeSpec := { name := "lawS5178CBits", fn := fun _ => fun
  | [d1, d2, d3, d4] => { results := [.lit (.bool true)], args := [d1, d2, d3, d4] }
  | _ => none }
def lawS5178CBitsRow : OpenClaim := { program := "ybulkdcfe", sum := "290c815f33dea2de510b02cd801d7a888e61023eae3a7d7dac42d45f07844482", func := "example.com/bytecairn/bytecairn/pkg/library.LawS5178CBits", spec := "lawS5178CBits", inPlace := ["math.Float64frombits", "math.Float64bits"], apart := false }
def LawS5178CBitsSaid : Prop := lawS5178CBitsRow.holds Yba.pinned (OpenSpec.ofChange lawS5178CBitsSpec)

/-- ITS FALSE NEIGHBOUR: 'it returns false'. Refute it at one input. -/
def lawS5178CBitsWrong : ChangeSpec := { name := "lawS5178CBits", fn := fun _ => fun
  | [d1, d2, d3, d4] => { results := [.lit (.bool false)], args := [d1, d2, d3, d4] }
  | _ => none }
def LawS5178CBitsWrongFalsely : Prop := lawS5178CBitsRow.holds Yba.pinned (OpenSpec.ofChange lawS5178CBitsWrong)

end Rows
end Go.Proofs.Ybulkdcfe
