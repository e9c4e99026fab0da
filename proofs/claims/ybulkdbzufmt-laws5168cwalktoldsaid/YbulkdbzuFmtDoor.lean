/-
  fmt's door: fmt.Sprintf at the two formats of (*Decoder).ended, its operands strings: whatever the tape answers, a string comes back and nothing but the count of draws has turned. Then read (8), errorf (11), ended (10).
-/
import Derived.Test.YbulkdbzuFmtDec
namespace Go.Proofs.YbulkdbzuFmt
open Go.RowKit Go.Extern.Stop Go.Stop Go.Extern
set_option linter.unusedVariables false

theorem call12 (args : Array Value) (w : World) : (callFunc 12 args).run Ybaf.prog w = (FmtCalls.sprintf #[9, 53] #[9] args).run Ybaf.prog w :=
  run_callFunc_next Ybaf.func12 (by kernel_rfl) (by kernel_rfl) (by kernel_rfl) args w
theorem guardF (name : String) (w : World) : (FmtStop.guard name).run Ybaf.prog w = .ok () w := by kernel_rfl
theorem nextTurns : Extern.next FmtCalls.turnsRow = some (FmtCalls.begun #[] #[]) := by kernel_rfl
/-- "input ends, expected %s" -/
def fmtA : ByteArray := { data := #[105, 110, 112, 117, 116, 32, 101, 110, 100, 115, 44, 32, 101, 120, 112, 101, 99, 116, 101, 100, 32, 37, 115] }
/-- "input ends inside the %s that opens here, expected %s" -/
def fmtB : ByteArray := { data := #[105, 110, 112, 117, 116, 32, 101, 110, 100, 115, 32, 105, 110, 115, 105, 100, 101, 32, 116, 104, 101, 32, 37, 115, 32, 116, 104, 97, 116, 32, 111, 112, 101, 110, 115, 32, 104, 101, 114, 101, 44, 32, 101, 120, 112, 101, 99, 116, 101, 100, 32, 37, 115] }
theorem printedA : FmtStop.printed? fmtA 1 = some [(0, 115, false)] := by kernel_rfl
theorem printedB : FmtStop.printed? fmtB 2 = some [(0, 115, false), (1, 115, false)] := by kernel_rfl
def shape9 : List UInt8 := [12, 6, 0, 0, 0, 0, 0, 0, 0, 115, 116, 114, 105, 110, 103]
theorem act9 (name : String) (x : Value) (w : World) : (FmtCalls.act name false 115 false (.iface 9 x)).run Ybaf.prog w = .ok (.closed false) w := by kernel_rfl
theorem op9 (name : String) (x : ByteArray) (w : World) : (FmtStop.operand name false 115 false (.iface 9 (.string x))).run Ybaf.prog w = .ok (shape9, FmtStop.pack x.data.toList) w := by kernel_rfl

theorem rowsA (vb : Nat) (s : ByteArray) (w : World) (R : Value → World → Prop) (hc : w.cell? ⟨vb, 0, none⟩ = some (.iface 9 (.string s))) (h : ∀ t, R (.string t) w.drew) :
    Rows Ybaf.prog FmtCalls.turnsRow (FmtCalls.save 0 0 (.slice (some ⟨vb, 0, none⟩) 1 1) fmtA [] [(0, 115, false)]) w R := by
  apply rows_value nextTurns
  case hr =>
    simp [go_sem, act9, op9, hc]
    exact ⟨rfl, rfl⟩
  case h => exact h _

theorem rowsB (vb : Nat) (s u : ByteArray) (w : World) (R : Value → World → Prop) (hc : w.cell? ⟨vb, 0, none⟩ = some (.iface 9 (.string s))) (hd : w.cell? ⟨vb, 1, none⟩ = some (.iface 9 (.string u))) (h : ∀ t, R (.string t) w.drew) :
    Rows Ybaf.prog FmtCalls.turnsRow (FmtCalls.save 0 0 (.slice (some ⟨vb, 0, none⟩) 2 2) fmtB [] [(0, 115, false), (1, 115, false)]) w R := by
  apply rows_value nextTurns
  case hr =>
    simp [go_sem, act9, op9, hc, hd]
    exact ⟨rfl, rfl⟩
  case h => exact h _

attribute [local go_sem] call12 guardF printedA printedB

set_option maxHeartbeats 400000 in
theorem errorfA (d : Option Addr) (line col : Int) (vb : Nat) (s : ByteArray) (w : World) (hc : w.cell? ⟨vb, 0, none⟩ = some (.iface 9 (.string s))) :
    Calls Ybaf.prog 11 #[.pointer d, .agg #[.int .i64 line, .int .i64 col], .string fmtA, .slice (some ⟨vb, 0, none⟩) 1 1] w fun e w' =>
      ∃ k t, e = .returned (.iface 39 (.pointer (some ⟨k, 0, none⟩))) ∧ w.heap.size ≤ k ∧ Bk w' k #[.int .i64 line, .int .i64 col, .string t] 42 ∧ Below w.heap.size w w' := by
  have hv : vb < w.heap.size := World.block_lt_of_cell? _ _ hc
  go_enter Ybaf.func11, Ybaf.ntmps11
  go_wp2
  go_region_with (refine rowsA vb s _ _ ?_ ?_; (focus (go_simp; done)); intro t)
  all_goals
    go_wp2
    go_ret
    refine ⟨w.heap.size + 1, t, rfl, by omega, ?_, ?_⟩
    · have h := Bk.fresh (w.alloc (.cells #[.int .i64 line, .int .i64 col] 29)) #[.int .i64 line, .int .i64 col, .string t] 42
      simp only [World.size_alloc] at h
      exact h
    · have h := ((Below.refl w.heap.size w).alloc (Nat.le_refl _) (.cells #[.int .i64 line, .int .i64 col] 29)).alloc (by simp) (.cells #[.int .i64 line, .int .i64 col, .string t] 42)
      exact ⟨h.os, h.tape, h.output, h.size, h.block⟩

set_option maxHeartbeats 400000 in
theorem errorfB (d : Option Addr) (line col : Int) (vb : Nat) (s u : ByteArray) (w : World) (hc : w.cell? ⟨vb, 0, none⟩ = some (.iface 9 (.string s))) (hd : w.cell? ⟨vb, 1, none⟩ = some (.iface 9 (.string u))) :
    Calls Ybaf.prog 11 #[.pointer d, .agg #[.int .i64 line, .int .i64 col], .string fmtB, .slice (some ⟨vb, 0, none⟩) 2 2] w fun e w' =>
      ∃ k t, e = .returned (.iface 39 (.pointer (some ⟨k, 0, none⟩))) ∧ w.heap.size ≤ k ∧ Bk w' k #[.int .i64 line, .int .i64 col, .string t] 42 ∧ Below w.heap.size w w' := by
  have hv : vb < w.heap.size := World.block_lt_of_cell? _ _ hc
  go_enter Ybaf.func11, Ybaf.ntmps11
  go_wp2
  go_region_with (refine rowsB vb s u _ _ ?_ ?_ ?_; (focus (go_simp; done)); (focus (go_simp; done)); intro t)
  all_goals
    go_wp2
    go_ret
    refine ⟨w.heap.size + 1, t, rfl, by omega, ?_, ?_⟩
    · have h := Bk.fresh (w.alloc (.cells #[.int .i64 line, .int .i64 col] 29)) #[.int .i64 line, .int .i64 col, .string t] 42
      simp only [World.size_alloc] at h
      exact h
    · have h := ((Below.refl w.heap.size w).alloc (Nat.le_refl _) (.cells #[.int .i64 line, .int .i64 col] 29)).alloc (by simp) (.cells #[.int .i64 line, .int .i64 col, .string t] 42)
      exact ⟨h.os, h.tape, h.output, h.size, h.block⟩

end Go.Proofs.YbulkdbzuFmt
