/-
  bytes.Equal (7) of two slices that hold the same bytes.
-/
import Derived.Test.YbulkdcecFmtNew
import Derived.Laws.BytesArg
namespace Go.Proofs.YbulkdcecFmt
open Go.RowKit Go.Extern.Stop Go.Stop Go.Extern
set_option linter.unusedVariables false
set_option linter.unusedSimpArgs false

/-- The slice value v holds the first n bytes of z. -/
def Byt (w : World) (v : Value) (n : Nat) (z : Nat → Int) : Prop := ∃ a c, v = .slice a n c ∧ (n = 0 ∨ ∃ b o, a = some ⟨b, o, none⟩ ∧ ∀ j, j < n → w.cell? ⟨b, o + j, none⟩ = some (.int .u8 (z j)))

theorem Own.byt {w : World} {base : Nat} {v : Value} {n : Nat} {z : Nat → Int} (h : Own w base v n z) : Byt w v n z := by
  obtain ⟨p, cp, rfl⟩ := h.form
  refine ⟨p, cp, rfl, ?_⟩
  rcases h.2 with ⟨_, rfl⟩ | ⟨g, cap, cur, he, _, hg, _⟩
  · exact .inl rfl
  · cases he
    refine .inr ⟨g, 0, rfl, fun j hj => ?_⟩
    have hc := World.ownsRow.cells h (g := g) rfl j (.int .u8 (z j)) (by simpa using bts_get z 0 n j hj)
    rwa [add_at] at hc

def strz (z : Nat → Int) (n : Nat) : ByteArray := strOfNums ((List.range n).map z)

theorem conv_zero (w : World) (p : Option Addr) (c : Nat) : (convert 22 9 (.slice p 0 c)).run Ybaf.prog w = .ok (.string ByteArray.empty) w := by
  rw [run_convert_bytes_string w 22 9 5 _ 0 c Ybaf.underlying22 Ybaf.underlying5 Ybaf.underlying9]
  cases p <;> simp [Conv.bytesToString, loadCells]
  all_goals rfl

theorem Byt.conv {w : World} {v : Value} {n : Nat} {z : Nat → Int} (h : Byt w v n z) : (convert 22 9 v).run Ybaf.prog w = .ok (.string (strz z n)) w := by
  obtain ⟨a, c, rfl, rfl | ⟨b, o, rfl, hc⟩⟩ := h
  · exact conv_zero w a c
  · refine run_convert_bytes_arg w 22 5 Ybaf.underlying22 Ybaf.underlying5 b o n c ((List.range n).map z) (by simp) ?_ 9 Ybaf.underlying9
    intro j hj
    rw [hc j hj]
    simp [List.getD, List.getElem?_eq_getElem (show j < ((List.range n).map z).length by simpa using hj)]

theorem equal_any (v u : Value) (n : Nat) (z : Nat → Int) (w : World) (hv : Byt w v n z) (hu : Byt w u n z) :
    Calls Ybaf.prog 7 #[v, u] w fun e w' => e = .returned (.bool true) ∧ w' = w := by
  have h1 := hv.conv
  have h2 := hu.conv
  clear hv hu
  go_enter Ybaf.func7, Ybaf.ntmps7
  go_wp2_with fail
  go_ret
  exact ⟨by simp, rfl⟩

end Go.Proofs.YbulkdcecFmt
