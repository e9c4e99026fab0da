/-
  What both cards share: the closed facts on the program, what the listed io.EOF gives the walks, and a start that meets the condition (the heap that the door's own run leaves).
-/
import Derived.Test.YbulkdbzuFmtCards
import Derived.Test.YbulkdbzuFmtTie
import Derived.Test.YbulkdbzuFmtBits
import Derived.ProofKit
import Derived.LaidMore
import Derived.OpenShut
import Derived.ShutString
import Derived.ChangeOld
import Derived.Stop.JoinedAt
import Derived.Stop.JoinedTold
import Derived.Stop.LaidErr
import Derived.SevenTiedAt
namespace Go.Proofs.YbulkdbzuFmt
open Go.ChangeShapes Go.WideShapes Go.ChangeAt Go.RowKit
open Go.Extern.Stop Go.Stop Go.Extern

theorem own : ownKnob Ybaf.prog.godebug = none := by kernel_rfl
theorem laidOut : laidOutB Ybaf.prog = true := by kernel_rfl
theorem laidOut' : laidOutB Ybaf.pinned.checked.prog = true := by kernel_rfl
theorem stops : Ybaf.pinned.checked.prog.stops = ["fmt.Sprintf, its operands' methods called"] := by kernel_rfl
theorem stopKnobs : Ybaf.pinned.checked.prog.stopKnobs = [] := by kernel_rfl
theorem quiet (os : Os) : Stop.quiet Ybaf.pinned.checked.prog os := by
  intro k hk
  rw [stopKnobs] at hk
  cases hk
theorem gEOF : Ybaf.prog.globalNamed "io.EOF" = some 0 := by kernel_rfl
theorem tEOF : (Ybaf.prog.globals[0]?).map (·.type) = some 25 := by kernel_rfl
theorem cells50 : Ybaf.prog.cellsOf 50 = 1 := by kernel_rfl
theorem cells9 : Ybaf.prog.cellsOf 9 = 1 := by kernel_rfl
theorem star : "*" ++ "errors.errorString" = "*errors.errorString" := by decide
theorem row48 (u : TypeId) (h : Ybaf.prog.typeName? 3 u = some "*errors.errorString") : u = 48 :=
  typeName_ptr_named (nm := "errors.errorString") (by rw [star]; kernel_rfl) (by kernel_rfl) (by decide) u (by rw [star]; exact h)

/-- The door's own heap meets the condition. -/
theorem door_met (os : Os) (args : Array Value) : laidMetH Ybaf.prog [("io.EOF", Rows.laid_io_EOF)] ((World.doorLaid Ybaf.prog 28 os).forCall (fun _ _ => 0) ⟨#[], args, []⟩).memory :=
  laidMetH_of_parts3 (fuel := 8) (laidMet_of_run' 8 (by kernel_rfl) (by kernel_rfl)) (by kernel_rfl) (by kernel_rfl)

/-- What the condition gives the walks: the variable's cell, and the block behind it. -/
theorem of_laid {W : World} (h : laidMetH Ybaf.prog [("io.EOF", Rows.laid_io_EOF)] W) :
    ∃ (eo : Addr) (ce : Array Value) (te : TypeId), W.cell? ⟨0, 0, none⟩ = some (.iface 48 (.pointer (some eo))) ∧ Bk W eo.block ce te := by
  rw [MakeChecks.laidMetH_plain _ _ _ (by kernel_rfl)] at h
  obtain ⟨ps, ⟨g0, t0, cs0, f0, p0, q0, hg0, ht0, hv0, hd0, hq1, e0⟩, hnd, hrows⟩ := h
  obtain rfl := Option.some.inj (gEOF.symm.trans hg0)
  obtain rfl := Option.some.inj (tEOF.symm.trans ht0)
  subst e0
  obtain ⟨l0⟩ := cs0
  have ok0 : ∀ u v, l0 = [.iface u v] → Value.okWide Ybaf.prog W .any 0 u v := fun u v e => by
    subst e
    exact (hrows 0 0 (by simp [MemPlace.row])).2 u v (by simpa using World.var?_cell hg0 hv0 0)
  obtain ⟨a0, s0, rfl, hc0, hs0, hz0, rfl⟩ := errorString_of_trod under25 row48 Ybaf.underlying48 Ybaf.underlying50 rfl rfl Ybaf.underlying9 cells50 cells9 hd0 ok0
  obtain ⟨c0, t0, hb0⟩ := (hrows a0.block a0.off (by simp [MemPlace.row])).1
  exact ⟨a0, c0, t0, by simpa using World.var?_cell hg0 hv0 0, hb0⟩

end Go.Proofs.YbulkdbzuFmt
