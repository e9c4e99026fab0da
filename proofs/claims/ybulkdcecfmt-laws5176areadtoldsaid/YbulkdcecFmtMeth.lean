/-
  The methods that the program's interface values lead to: closed facts over the program's tables.
-/
import Derived.Test.YbulkdcecFmtBase
namespace Go.Proofs.YbulkdcecFmt
open Go.RowKit Go.Extern.Stop Go.Stop Go.Extern

theorem m_bread (a : Addr) (w : World) : (method 195 32 (.pointer (some a)) "Read").run Ybaf.prog w = .ok (45, .pointer (some a)) w := by kernel_rfl
theorem m_bufread (a : Addr) (w : World) : (method 195 30 (.pointer (some a)) "Read").run Ybaf.prog w = .ok (10, .pointer (some a)) w := by kernel_rfl
theorem m_write (a : Addr) (w : World) : (method 195 25 (.pointer (some a)) "Write").run Ybaf.prog w = .ok (40, .pointer (some a)) w := by kernel_rfl
theorem m_sum (a : Addr) (w : World) : (method 195 25 (.pointer (some a)) "Sum").run Ybaf.prog w = .ok (39, .pointer (some a)) w := by kernel_rfl

end Go.Proofs.YbulkdcecFmt
