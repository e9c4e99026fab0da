/-
  The law's first lines: what their contracts say in the form that the walk wants.
-/
import Derived.Test.YbulkdcecFmtStop
import Derived.Deep.OwnRows
namespace Go.Proofs.YbulkdcecFmt
open Go.RowKit Go.Extern.Stop Go.Stop Go.Extern
set_option linter.unusedVariables false
set_option linter.unusedSimpArgs false

theorem range_of_bk {w : World} {b : Nat} {cs : List Value} {t : TypeId} (h : Bk w b cs.toArray t) : w.rangeAt b 0 cs := by
  intro j v hv
  rw [h.cell, Nat.zero_add]
  simpa using hv

theorem newReader' (rb : Nat) (a : Option Addr) (len cap : Nat) (w : World) (hrb : w.heap.size = rb) :
    Calls Ybaf.prog 5 #[.slice a len cap] w fun e w' => e = .returned (.pointer (some ⟨rb, 0, none⟩)) ∧ Bk w' rb (rdr a len cap 0 (-1)) 53 ∧ Fr [] w w' ∧ w'.heap.size = rb + 1 := by
  subst hrb
  refine (newReader_any a len cap w).mono ?_
  rintro e w' ⟨rfl, rfl⟩
  exact ⟨rfl, Bk.fresh w _ 53, (Fr.refl _ _).alloc _, by simp⟩

theorem newBuf' (rb bb : Nat) (w : World) (hbb : w.heap.size = bb) :
    Calls Ybaf.prog 4 #[.iface 32 (.pointer (some ⟨rb, 0, none⟩)), .int .i64 16] w fun e w' => e = .returned (.pointer (some ⟨bb, 0, none⟩)) ∧ Bk w' bb (bfr (bb + 1) rb 0 0 .nilIface (-1) (-1)) 50 ∧ Bk w' (bb + 1) zeros16.toArray 5 ∧ Fr [] w w' := by
  subst hbb
  exact newBuf_any rb w

theorem make_k (k : Nat) (h : k ≤ 1000) (w : World) : (Instr.makeSlice 22 (.int .i64 (k : Int)) (.int .i64 (k : Int))).run Ybaf.prog w = .ok (.slice (some ⟨w.heap.size, 0, none⟩) k k) (w.alloc (.cells (madeCells #[.int .u8 0] k) 5)) :=
  run_make_row' 22 5 (.int .u8 0) 1 Ybaf.underlying22 info5 rfl .i64 .i64 k (by omega) (by omega) w

theorem flip_at : ∀ n : Fin 256, 0 ≤ bits .xor .u8 (n.val : Int) 1 ∧ bits .xor .u8 (n.val : Int) 1 ≤ 255 ∧ bits .xor .u8 (n.val : Int) 1 ≠ (n.val : Int) := by decide +kernel
theorem flip_u8 (x : Int) (h0 : 0 ≤ x) (h1 : x ≤ 255) : 0 ≤ bits .xor .u8 x 1 ∧ bits .xor .u8 x 1 ≤ 255 ∧ bits .xor .u8 x 1 ≠ x := by
  obtain ⟨n, rfl⟩ := Int.eq_ofNat_of_zero_le h0
  exact flip_at ⟨n, by omega⟩

theorem madeCells_size (k : Nat) : (madeCells #[.int .u8 0] k).size = k := by
  simp [madeCells]

end Go.Proofs.YbulkdcecFmt
