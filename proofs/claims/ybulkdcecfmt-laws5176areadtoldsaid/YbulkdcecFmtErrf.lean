/-
  fmt.Errorf (11) at the three formats of looseReader's methods: a new error, whatever the text. And (ID).String (18) by its contract, taken as a hypothesis at the third.
-/
import Derived.Test.YbulkdcecFmtBase
import GoSem.ClaimData
namespace Go.Proofs.YbulkdcecFmt
open Go.RowKit Go.Extern.Stop Go.Stop Go.Extern
set_option linter.unusedVariables false
set_option linter.unusedSimpArgs false

theorem call16 (args : Array Value) (w : World) : (callFunc 16 args).run Ybaf.prog w = (FmtCalls.errorf #[9, 60] #[41] args).run Ybaf.prog w :=
  run_callFunc_next Ybaf.func16 (by kernel_rfl) (by kernel_rfl) (by kernel_rfl) args w
theorem guardF (name : String) (w : World) : (FmtStop.guard name).run Ybaf.prog w = .ok () w := by kernel_rfl
theorem nextTurns : Extern.next FmtCalls.turnsRow = some (FmtCalls.begun #[] #[]) := by kernel_rfl
theorem nextReturned : Extern.next FmtCalls.returnedRow = some (FmtCalls.returned #[] #[]) := by kernel_rfl
def fmt1 : ByteArray := { data := #[99, 111, 110, 116, 101, 110, 116, 32, 101, 110, 100, 115, 32, 97, 102, 116, 101, 114, 32, 37, 100, 32, 111, 102, 32, 116, 104, 101, 32, 37, 100, 32, 98, 121, 116, 101, 115, 32, 105, 116, 115, 32, 104, 101, 97, 100, 101, 114, 32, 103, 105, 118, 101, 115] }
def fmt2 : ByteArray := { data := #[99, 111, 110, 116, 101, 110, 116, 32, 114, 117, 110, 115, 32, 112, 97, 115, 116, 32, 116, 104, 101, 32, 37, 100, 32, 98, 121, 116, 101, 115, 32, 105, 116, 115, 32, 104, 101, 97, 100, 101, 114, 32, 103, 105, 118, 101, 115] }
def fmt3 : ByteArray := { data := #[105, 116, 115, 32, 98, 121, 116, 101, 115, 32, 104, 97, 115, 104, 32, 116, 111, 32, 37, 115, 44, 32, 110, 111, 116, 32, 116, 111, 32, 105, 116, 115, 32, 105, 100] }
theorem printed1 (w : World) : (FmtDoors.printed fmt1 2).run Ybaf.prog w = .ok [(0, 100, false), (1, 100, false)] w := by kernel_rfl
theorem printed2 (w : World) : (FmtDoors.printed fmt2 1).run Ybaf.prog w = .ok [(0, 100, false)] w := by kernel_rfl
theorem printed3 (w : World) : (FmtDoors.printed fmt3 1).run Ybaf.prog w = .ok [(0, 115, false)] w := by kernel_rfl
def shape2 : List UInt8 := [5, 5, 0, 0, 0, 0, 0, 0, 0, 105, 110, 116, 54, 52]
theorem act2 (name : String) (x : Value) (w : World) : (FmtCalls.act name true 100 false (.iface 2 x)).run Ybaf.prog w = .ok (.closed true) w := by kernel_rfl
theorem op2 (name : String) (x : Int) (w : World) : (FmtStop.operand name true 100 false (.iface 2 (.int .i64 x))).run Ybaf.prog w = .ok (shape2, Go.Extern.Stop.digits 8 (x % 2 ^ 64).toNat) w := by kernel_rfl
theorem act24 (name : String) (x : Value) (w : World) : (FmtCalls.act name true 115 false (.iface 24 x)).run Ybaf.prog w = .ok (.call false) w := by kernel_rfl
theorem str24 (w : World) : (typeStr 24).run Ybaf.prog w = .ok "hashkeep.ID" w := by kernel_rfl
theorem invokeString24 (x : Value) (w : World) : (invoke (.fn (.method "String") #[]) #[.iface 24 x]).run Ybaf.prog w = .ok (.enter 18 #[x]) w := by kernel_rfl
theorem ptr65 (w : World) : (FmtStop.ptrTo "errors.errorString").run Ybaf.prog w = .ok 65 w := by kernel_rfl
theorem elem65 (w : World) : (elemOf 65).run Ybaf.prog w = .ok 67 w := by kernel_rfl
attribute [local go_sem] call16 guardF printed1 printed2 printed3 act2 op2 act24 str24 ptr65 elem65

/-- A new error of errors.New's make. -/
def NewErr (w : World) (v : Value) (w' : World) : Prop := ∃ k s, v = .iface 65 (.pointer (some ⟨k, 0, none⟩)) ∧ w.heap.size ≤ k ∧ Bk w' k #[.string s] 67 ∧ Below w.heap.size w w'

theorem newErr_alloc (w : World) (s : ByteArray) : NewErr w (.iface 65 (.pointer (some ⟨w.heap.size, 0, none⟩))) (w.alloc (.cells #[.string s] 67)).drew :=
  ⟨w.heap.size, s, rfl, Nat.le_refl _, Bk.fresh w _ 67, ((Below.refl _ _).alloc (Nat.le_refl _) _).drew⟩

set_option maxHeartbeats 400000 in
theorem errorf1 (m n : Int) (vb : Nat) (w : World) (h0 : w.cell? ⟨vb, 0, none⟩ = some (.iface 2 (.int .i64 m))) (h1 : w.cell? ⟨vb, 1, none⟩ = some (.iface 2 (.int .i64 n))) :
    Calls Ybaf.prog 11 #[.string fmt1, .slice (some ⟨vb, 0, none⟩) 2 2] w fun e w' => ∃ v, e = .returned v ∧ NewErr w v w' := by
  go_enter Ybaf.func11, Ybaf.ntmps11
  go_wp2_with fail
  apply rows_value nextTurns
  case hr =>
    go_simp
    exact ⟨rfl, rfl⟩
  case h =>
    go_wp2_with fail
    go_ret
    exact ⟨_, rfl, newErr_alloc _ _⟩

set_option maxHeartbeats 400000 in
theorem errorf2 (m : Int) (vb : Nat) (w : World) (h0 : w.cell? ⟨vb, 0, none⟩ = some (.iface 2 (.int .i64 m))) :
    Calls Ybaf.prog 11 #[.string fmt2, .slice (some ⟨vb, 0, none⟩) 1 1] w fun e w' => ∃ v, e = .returned v ∧ NewErr w v w' := by
  go_enter Ybaf.func11, Ybaf.ntmps11
  go_wp2_with fail
  apply rows_value nextTurns
  case hr =>
    go_simp
    exact ⟨rfl, rfl⟩
  case h =>
    go_wp2_with fail
    go_ret
    exact ⟨_, rfl, newErr_alloc _ _⟩

set_option maxHeartbeats 400000 in
theorem errorf3 (x : Value) (vb : Nat) (w : World) (h0 : w.cell? ⟨vb, 0, none⟩ = some (.iface 24 x))
    (hs : ∀ w, Calls Ybaf.prog 18 #[x] w fun e w' => (∃ s, e = .returned (.string s)) ∧ Below w.heap.size w w') :
    Calls Ybaf.prog 11 #[.string fmt3, .slice (some ⟨vb, 0, none⟩) 1 1] w fun e w' => ∃ v, e = .returned v ∧ NewErr w v w' := by
  have HS := hide hs
  clear hs
  have hv : vb < w.heap.size := World.block_lt_of_cell? _ _ h0
  go_enter Ybaf.func11, Ybaf.ntmps11
  go_wp2_with fail
  apply rows_call nextTurns
  case hr =>
    go_simp
    exact ⟨⟨rfl, rfl, rfl⟩, rfl⟩
  case hi => exact invokeString24 _ _
  case hc =>
    refine (unhide HS _).mono fun e w₃ ⟨⟨s, he⟩, hx⟩ => ?_
    subst he
    have h03 : w₃.cell? ⟨vb, 0, none⟩ = some (.iface 24 x) := by rw [hx.cell hv]; exact h0
    have HX := hide hx
    clear hx
    apply rows_value nextReturned
    case hr =>
      go_simp
      exact ⟨rfl, rfl⟩
    case h =>
      go_wp2_with fail
      go_ret
      obtain ⟨k, s', hk1, hk2, hk3, hk4⟩ := newErr_alloc w₃ _
      exact ⟨_, rfl, k, s', hk1, Nat.le_trans (unhide HX).size hk2, hk3, (unhide HX).trans (hk4.mono (unhide HX).size)⟩

end Go.Proofs.YbulkdcecFmt
