/-
  No cell of these rows narrows 'for every input' (looked for: loops, veiled, ifaces, maps, wideKeys, modest, calm, conditions, laid).
  DERIVED. THE GIVEN ROWS OF THIS SEAT. 2 by the template 'for every input the law returns true; each argument reads behind the call as it read before'; 0 by the template 'total and deterministic' (their statements: YbulkdbzuTotals.lean).
  GIVEN WITH THE SEED: the statements are not yours to turn. If you find one false, say at which input.
  Laid BY PROGRAM, IN A SANDBOX (cutbox-rows.mjs): the forced cells as the released guide's own fill.sh prints them over the translation 97647db0108e1031… (all of the seat's roots in one cut). By AI agents, Wed Nov 11 2026. No macro, syntax, notation, axiom, sorry.
-/
import Derived.Test.YbulkdbzuChecked
import GoSem.Claim
import GoSem.ClaimJoined
import GoSem.ClaimMapViews
import Derived.JoinedTies
import Derived.KernelRfl
namespace Go.Proofs.Ybulkdbzu
/- THE CELL 'sum', in the pinned program and in every row, IS THE sha256 OF THE DUMP (.gsa) THAT YbulkdbzuProg.lean LOADS. Nothing in Lean hashes anything: it is a label: what it is worth is what the hold of that sum in a sandbox is worth. -/
noncomputable def Yba.pinned : Pinned := { name := "ybulkdbzu", sum := "97647db0108e1031e827ef3dd4b5cf751238afe7c7d54899e97d9240238a78d0", checked := Yba.checked }
namespace Rows
def none {H : Type} : Left H := { results := [], args := [] }

/-- 'typeweft.LawS5168AExact': WHATEVER THE INPUT: true; the input reads as it did. -/
def lawS5168AExactSpec : ChangeSpec := { name := "lawS5168AExact", fn := fun _ => fun
  | [d] => { results := [.lit (.bool true)], args := [d] }
  | _ => none }
def lawS5168AExactRow : OpenClaim := { program := "ybulkdbzu", sum := "97647db0108e1031e827ef3dd4b5cf751238afe7c7d54899e97d9240238a78d0", func := "example.com/typeweft/typeweft.LawS5168AExact", spec := "lawS5168AExact", apart := false }
def LawS5168AExactSaid : Prop := lawS5168AExactRow.holds Yba.pinned (OpenSpec.ofChange lawS5168AExactSpec)

/-- ITS FALSE NEIGHBOUR: 'it returns false'. Refute it at one input. -/
def lawS5168AExactWrong : ChangeSpec := { name := "lawS5168AExact", fn := fun _ => fun
  | [d] => { results := [.lit (.bool false)], args := [d] }
  | _ => none }
def LawS5168AExactWrongFalsely : Prop := lawS5168AExactRow.holds Yba.pinned (OpenSpec.ofChange lawS5168AExactWrong)

/-- 'typeweft.LawS5168ADistinct': WHATEVER THE INPUT: true; the input reads as it did. -/
def lawS5168ADistinctSpec : ChangeSpec := { name := "lawS5168ADistinct", fn := fun _ => fun
  | [d] => { results := [.lit (.bool true)], args := [d] }
  | _ => none }
def lawS5168ADistinctRow : OpenClaim := { program := "ybulkdbzu", sum := "97647db0108e1031e827ef3dd4b5cf751238afe7c7d54899e97d9240238a78d0", func := "example.com/typeweft/typeweft.LawS5168ADistinct", spec := "lawS5168ADistinct", apart := false }
def LawS5168ADistinctSaid : Prop := lawS5168ADistinctRow.holds Yba.pinned (OpenSpec.ofChange lawS5168ADistinctSpec)

/-- ITS FALSE NEIGHBOUR: 'it returns false'. Refute it at one input. -/
def lawS5168ADistinctWrong : ChangeSpec := { name := "lawS5168ADistinct", fn := fun _ => fun
  | [d] => { results := [.lit (.bool false)], args := [d] }
  | _ => none }
def LawS5168ADistinctWrongFalsely : Prop := lawS5168ADistinctRow.holds Yba.pinned (OpenSpec.ofChange lawS5168ADistinctWrong)

end Rows
end Go.Proofs.Ybulkdbzu
