/-
  The closed facts on the program, what the listed io.EOF gives the walk, and a start that meets the condition (the heap that the door's own run leaves).
-/
import Derived.Test.YbulkdcecFmtCards
import Derived.Test.YbulkdcecFmtTie
import Derived.Test.YbulkdcecFmtLaw
import Derived.ProofKit
import Derived.LaidMore
import Derived.OpenShut
import Derived.ShutString
import Derived.ChangeOld
import Derived.Stop.JoinedAt
import Derived.Stop.JoinedTold
import Derived.Stop.LaidErr
import Derived.SevenTiedAt
namespace Go.Proofs.YbulkdcecFmt
open Go.ChangeShapes Go.WideShapes Go.ChangeAt Go.RowKit
open Go.Extern.Stop Go.Stop Go.Extern
set_option linter.unusedVariables false

theorem own : ownKnob Ybaf.prog.godebug = none := by kernel_rfl
theorem laidOut : laidOutB Ybaf.prog = true := by kernel_rfl
theorem laidOut' : laidOutB Ybaf.pinned.checked.prog = true := by kernel_rfl
theorem stops : Ybaf.pinned.checked.prog.stops = ["fmt.errorf, its operands' methods called"] := by kernel_rfl
theorem stopKnobs : Ybaf.pinned.checked.prog.stopKnobs = [] := by kernel_rfl
theorem quiet (os : Os) : Stop.quiet Ybaf.pinned.checked.prog os := by
  intro k hk
  rw [stopKnobs] at hk
  cases hk
theorem gEOF : Ybaf.prog.globalNamed "io.EOF" = some 0 := by kernel_rfl
theorem tEOF : (Ybaf.prog.globals[0]?).map (·.type) = some 41 := by kernel_rfl
theorem cells67 : Ybaf.prog.cellsOf 67 = 1 := by kernel_rfl
theorem cells9 : Ybaf.prog.cellsOf 9 = 1 := by kernel_rfl
theorem cells5 : Ybaf.prog.cellsOf 5 = 1 := by kernel_rfl
theorem cells23 : Ybaf.prog.cellsOf 23 = 20 := by kernel_rfl
theorem star : "*" ++ "errors.errorString" = "*errors.errorString" := by decide
theorem row65 (u : TypeId) (h : Ybaf.prog.typeName? 3 u = some "*errors.errorString") : u = 65 :=
  typeName_ptr_named (nm := "errors.errorString") (by rw [star]; kernel_rfl) (by kernel_rfl) (by decide) u (by rw [star]; exact h)

/-- The door's own heap meets the condition. -/
theorem door_met (os : Os) (args : Array Value) : laidMetH Ybaf.prog [("io.ErrShortBuffer", Rows.laid_io_ErrShortBuffer), ("io.EOF", Rows.laid_io_EOF), ("io.ErrUnexpectedEOF", Rows.laid_io_ErrUnexpectedEOF), ("bufio.errNegativeRead", Rows.laid_bufio_errNegativeRead)] ((World.doorLaid Ybaf.prog 85 os).forCall (fun _ _ => 0) ⟨#[], args, []⟩).memory :=
  laidMetH_of_parts3 (fuel := 8) (laidMet_of_run' 8 (by kernel_rfl) (by kernel_rfl)) (by kernel_rfl) (by kernel_rfl)

/-- What the condition gives the walks: the variable's cell, and the block behind it. -/
theorem of_laid {W : World} (h : laidMetH Ybaf.prog [("io.ErrShortBuffer", Rows.laid_io_ErrShortBuffer), ("io.EOF", Rows.laid_io_EOF), ("io.ErrUnexpectedEOF", Rows.laid_io_ErrUnexpectedEOF), ("bufio.errNegativeRead", Rows.laid_bufio_errNegativeRead)] W) :
    ∃ (eo : Addr) (ce : Array Value) (te : TypeId), W.cell? ⟨0, 0, none⟩ = some (.iface 65 (.pointer (some eo))) ∧ Bk W eo.block ce te := by
  rw [MakeChecks.laidMetH_plain _ _ _ (by kernel_rfl)] at h
  obtain ⟨ps, ⟨gs, ts, css, fs, pp, qq, hgs, hts, hvs, hds, ⟨g0, t0, cs0, f0, p0, q0, hg0, ht0, hv0, hd0, hq1, e0⟩, e1⟩, hnd, hrows⟩ := h
  obtain rfl := Option.some.inj (gEOF.symm.trans hg0)
  obtain rfl := Option.some.inj (tEOF.symm.trans ht0)
  subst e0
  subst e1
  obtain ⟨l0⟩ := cs0
  have ok0 : ∀ u v, l0 = [.iface u v] → Value.okWide Ybaf.prog W .any 0 u v := fun u v e => by
    subst e
    exact (hrows 0 0 (by simp [MemPlace.row])).2 u v (by simpa using World.var?_cell hg0 hv0 0)
  obtain ⟨a0, s0, rfl, hc0, hs0, hz0, rfl⟩ := errorString_of_trod under41 row65 Ybaf.underlying65 Ybaf.underlying67 rfl rfl Ybaf.underlying9 cells67 cells9 hd0 ok0
  obtain ⟨c0, t0, hb0⟩ := (hrows a0.block a0.off (by simp [MemPlace.row])).1
  exact ⟨a0, c0, t0, by simpa using World.var?_cell hg0 hv0 0, hb0⟩

/-- An array of twenty bytes by value. -/
theorem open_bytes20 {H : Type} {enc : TypeId × Value → H} {W : World} {base : Nat} {sp : Nat → Bool} {held : Bool} {fuel : Nat} {l : List Value} {x : DataW H × List MemPlace}
    (h : DataW.trod enc Ybaf.prog W base sp held fuel 23 l = some x) : ∃ xs : List Int, l = u8s xs ∧ xs.length = 20 ∧ InU8 xs := by
  obtain ⟨ys, m, _, _, hlen, hl, hel⟩ := DataW.trod_array Ybaf.underlying23 h
  rw [cells23] at hlen
  rw [cells5] at hel
  have key : ∀ i, (hi : i < l.length) → ∃ n, l[i] = .int .u8 n ∧ (0 ≤ n ∧ n ≤ 255) := by
    intro i hi
    have hk := hel i (by omega)
    rw [Nat.mul_one, List.getElem?_eq_getElem (show i < ys.length by omega)] at hk
    obtain ⟨n, e, _, wf⟩ := DataW.trod_int Ybaf.underlying5 hk
    have e2 : (List.take 1 (List.drop i l))[0]? = l[i]? := by simp [List.getElem?_drop]
    rw [e, List.getElem?_eq_getElem hi] at e2
    refine ⟨n, (Option.some.inj e2).symm, ?_⟩
    simp [Lit.wf, IntKind.min, IntKind.max, IntKind.signed, IntKind.bits] at wf
    omega
  let f : Value → Int := fun v => match v with | .int _ n => n | _ => 0
  refine ⟨l.map f, ?_, by simpa using hlen, ?_⟩
  · apply List.ext_getElem (by simp [u8s])
    intro i h1 h2
    obtain ⟨n, e, _⟩ := key i h1
    simp [u8s, e, f]
  · intro v hv
    obtain ⟨u, hu, rfl⟩ := List.mem_map.1 hv
    obtain ⟨i, hi, rfl⟩ := List.mem_iff_getElem.1 hu
    obtain ⟨n, e, hb⟩ := key i hi
    rw [e]
    exact hb

end Go.Proofs.YbulkdcecFmt
