/-
  bytes.NewReader (5), (*bufio.Reader).reset (8), bufio.NewReaderSize (4).
-/
import Derived.Test.YbulkdcecFmtRead2
namespace Go.Proofs.YbulkdcecFmt
open Go.RowKit Go.Extern.Stop Go.Stop Go.Extern
set_option linter.unusedVariables false
set_option linter.unusedSimpArgs false

theorem newReader_any (a : Option Addr) (len cap : Nat) (w : World) :
    Calls Ybaf.prog 5 #[.slice a len cap] w fun e w' => e = .returned (.pointer (some ⟨w.heap.size, 0, none⟩)) ∧ w' = w.alloc (.cells (rdr a len cap 0 (-1)) 53) := by
  go_enter Ybaf.func5, Ybaf.ntmps5
  go_wp2_with fail
  go_ret
  exact ⟨rfl, rfl⟩

def zeros16 : List Value := List.replicate 16 (.int .u8 0)
theorem make16 (w : World) : (Instr.makeSlice 22 (.int .i64 16) (.int .i64 16)).run Ybaf.prog w = .ok (.slice (some ⟨w.heap.size, 0, none⟩) 16 16) (w.alloc (.cells zeros16.toArray 5)) := by kernel_rfl

set_option maxHeartbeats 1000000 in
theorem reset_any (bb ub rb : Nat) (c0 c1 c2 c3 c4 c5 c6 : Value) (w : World) (h : Bk w bb #[c0, c1, c2, c3, c4, c5, c6] 50) :
    Calls Ybaf.prog 8 #[.pointer (some ⟨bb, 0, none⟩), .slice (some ⟨ub, 0, none⟩) 16 16, .iface 32 (.pointer (some ⟨rb, 0, none⟩))] w fun e w' => (∃ v, e = .returned v) ∧ Bk w' bb (bfr ub rb 0 0 .nilIface (-1) (-1)) 50 ∧ Fr [bb] w w' := by
  have k0 : w.cell? ⟨bb, 0, none⟩ = some c0 := h.cell 0
  have k1 : w.cell? ⟨bb, 1, none⟩ = some c1 := h.cell 1
  have k2 : w.cell? ⟨bb, 2, none⟩ = some c2 := h.cell 2
  have k3 : w.cell? ⟨bb, 3, none⟩ = some c3 := h.cell 3
  have k4 : w.cell? ⟨bb, 4, none⟩ = some c4 := h.cell 4
  have k5 : w.cell? ⟨bb, 5, none⟩ = some c5 := h.cell 5
  have k6 : w.cell? ⟨bb, 6, none⟩ = some c6 := h.cell 6
  have z0 := h.frozen 0
  have z1 := h.frozen 1
  have z2 := h.frozen 2
  have z3 := h.frozen 3
  have z4 := h.frozen 4
  have z5 := h.frozen 5
  have z6 := h.frozen 6
  have HB := hide h
  clear h
  go_enter Ybaf.func8, Ybaf.ntmps8
  go_wp2_with fail
  go_end0
  refine ⟨⟨_, rfl⟩, ?_, ?_⟩
  · have hb := (((((((unhide HB).set 0 (.slice (some ⟨ub, 0, none⟩) 16 16)).set 1 (.iface 32 (.pointer (some ⟨rb, 0, none⟩)))).set 2 (.int .i64 0)).set 3 (.int .i64 0)).set 4 .nilIface).set 5 (.int .i64 (-1))).set 6 (.int .i64 (-1))
    exact hb
  · exact ((((((((Fr.refl [bb] w).set (by simp) 0 _).set (by simp) 1 _).set (by simp) 2 _).set (by simp) 3 _).set (by simp) 4 _).set (by simp) 5 _).set (by simp) 6 _)

theorem assert30 (v : Value) (w : World) : (Instr.typeAssert (.iface 32 v) 47 30 true).run Ybaf.prog w = .ok (.tuple #[.pointer none, .bool false]) w := by kernel_rfl
theorem max16 (w : World) : (Builtin.max_ #[3, 3] 3 #[.int .i64 16, .int .i64 16]).run Ybaf.prog w = .ok (.int .i64 16) w := by kernel_rfl
attribute [local go_sem] make16 assert30

set_option maxHeartbeats 1000000 in
/-- The buffered reader: its own block is the first new one, its buffer the second. -/
theorem newBuf_any (rb : Nat) (w : World) :
    Calls Ybaf.prog 4 #[.iface 32 (.pointer (some ⟨rb, 0, none⟩)), .int .i64 16] w fun e w' => e = .returned (.pointer (some ⟨w.heap.size, 0, none⟩)) ∧ Bk w' w.heap.size (bfr (w.heap.size + 1) rb 0 0 .nilIface (-1) (-1)) 50 ∧ Bk w' (w.heap.size + 1) zeros16.toArray 5 ∧ Fr [] w w' := by
  go_enter Ybaf.func4, Ybaf.ntmps4
  go_wp2_with fail
  have h1 : Bk ((w.alloc (.cells #[.slice none 0 0, .nilIface, .int .i64 0, .int .i64 0, .nilIface, .int .i64 0, .int .i64 0] 50)).alloc (.cells zeros16.toArray 5)) w.heap.size #[.slice none 0 0, .nilIface, .int .i64 0, .int .i64 0, .nilIface, .int .i64 0, .int .i64 0] 50 := (Bk.fresh w _ 50).alloc _
  have h2 : Bk ((w.alloc (.cells #[.slice none 0 0, .nilIface, .int .i64 0, .int .i64 0, .nilIface, .int .i64 0, .int .i64 0] 50)).alloc (.cells zeros16.toArray 5)) (w.heap.size + 1) zeros16.toArray 5 := by
    have h := Bk.fresh (w.alloc (.cells #[.slice none 0 0, .nilIface, .int .i64 0, .int .i64 0, .nilIface, .int .i64 0, .int .i64 0] 50)) zeros16.toArray 5
    simp only [World.size_alloc] at h
    exact h
  have h3 : Fr [] w ((w.alloc (.cells #[.slice none 0 0, .nilIface, .int .i64 0, .int .i64 0, .nilIface, .int .i64 0, .int .i64 0] 50)).alloc (.cells zeros16.toArray 5)) := ((Fr.refl [] w).alloc _).alloc _
  generalize (w.alloc (.cells #[.slice none 0 0, .nilIface, .int .i64 0, .int .i64 0, .nilIface, .int .i64 0, .int .i64 0] 50)).alloc (.cells zeros16.toArray 5) = W1 at h1 h2 h3 ⊢
  refine (reset_any w.heap.size (w.heap.size + 1) rb _ _ _ _ _ _ _ W1 h1).mono ?_
  rintro e w2 ⟨⟨v, rfl⟩, g1, g2⟩
  have G1 := hide g1
  have G2 : Hid (Bk w2 (w.heap.size + 1) zeros16.toArray 5) := g2.bk h2 (by simp)
  have G3 : Hid (Fr [] w w2) := h3.also g2 (by simp)
  clear g1 g2 h1 h2 h3
  go_wp2_with fail
  go_ret
  exact ⟨rfl, unhide G1, unhide G2, unhide G3⟩

end Go.Proofs.YbulkdcecFmt
