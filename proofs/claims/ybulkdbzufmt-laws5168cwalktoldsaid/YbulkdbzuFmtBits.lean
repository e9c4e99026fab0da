/-
  What both laws' walks share: a slice of bytes that came in, errors.New (6), the type assertion to *Error.
-/
import Derived.Test.YbulkdbzuFmtDec3
namespace Go.Proofs.YbulkdbzuFmt
open Go.RowKit Go.Extern.Stop Go.Stop Go.Extern
set_option linter.unusedVariables false

/-- WHAT THE WALK IS TOLD OF A SLICE OF BYTES THAT CAME IN: it is nil; or it leads to a row of 'cap' cells, the numbers 'zs'. -/
def IsRow (w : World) (a : Option Addr) (len cap : Nat) (zs : List Int) : Prop :=
  (a = none ∧ len = 0 ∧ cap = 0 ∧ zs = []) ∨
  ∃ x, a = some x ∧ len ≤ cap ∧ cap ≤ maxLen ∧ zs.length = cap ∧ (∀ i, i < zs.length → w.cell? (x.add i) = some (.int .u8 (zs.getD i 0))) ∧ ∀ n ∈ zs, (Lit.int .u8 n).wf = true

theorem empty_isEmpty : (⟨#[]⟩ : ByteArray).toList.isEmpty = true := by decide +kernel

theorem new_any (s : ByteArray) (w : World) : Calls Ybaf.prog 6 #[.string s] w fun e w' => e = .returned (.iface 48 (.pointer (some ⟨w.heap.size, 0, none⟩))) ∧ w.alloc (.cells #[.string s] 50) = w' := by
  go_enter Ybaf.func6, Ybaf.ntmps6
  go_wp2
  go_ret
  exact ⟨rfl, rfl⟩

theorem add_at (xb xo k : Nat) : (⟨xb, xo, none⟩ : Addr).add k = ⟨xb, xo + k, none⟩ := by
  by_cases h : k = 0
  · subst h; simp [Addr.add]
  · simp [Addr.add, h]

theorem assert39 (a : Addr) (w : World) : (Instr.typeAssert (.iface 39 (.pointer (some a))) 25 39 true).run Ybaf.prog w = .ok (.tuple #[.pointer (some a), .bool true]) w := by kernel_rfl

end Go.Proofs.YbulkdbzuFmt
