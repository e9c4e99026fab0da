/-
  fmt's door at needHeader's format, and needHeader (11) by its contracts; the walks of the two laws (5, 6).
-/
import Derived.Test.YbulkdcaiFmtProg
import Derived.WalkKit
import Derived.WalkSpells
import Derived.Stop.CallBack
import Derived.Stop.IfaceNil
import GoSem.ClaimData
namespace Go.Proofs.YbulkdcaiFmt
open Go.RowKit Go.Extern.Stop Go.Stop Go.Extern
set_option linter.unusedVariables false

theorem call22 (args : Array Value) (w : World) : (callFunc 22 args).run Ybaf.prog w = ((FmtStop.errorf #[9, 62] #[24] args).run Ybaf.prog w).andThen fun v w' => .ok (.value v) w' :=
  run_callFunc_extern Ybaf.func22 (by kernel_rfl) (by kernel_rfl) (by kernel_rfl) (by kernel_rfl) args w
theorem guardF (name : String) (w : World) : (FmtStop.guard name).run Ybaf.prog w = .ok () w := by kernel_rfl
/-- "%d bytes, fewer than its %d-byte header" -/
def fmtN : ByteArray := { data := #[37, 100, 32, 98, 121, 116, 101, 115, 44, 32, 102, 101, 119, 101, 114, 32, 116, 104, 97, 110, 32, 105, 116, 115, 32, 37, 100, 45, 98, 121, 116, 101, 32, 104, 101, 97, 100, 101, 114] }
theorem printedN (w : World) : (FmtDoors.printed fmtN 2).run Ybaf.prog w = .ok [(0, 100, false), (1, 100, false)] w := by kernel_rfl
theorem containsN : fmtN.data.contains 37 = true := by decide +kernel
def shape3 : List UInt8 := [5, 3, 0, 0, 0, 0, 0, 0, 0, 105, 110, 116]
theorem op3 (name : String) (x : Int) (w : World) : (FmtStop.operand name true 100 false (.iface 3 (.int .i64 x))).run Ybaf.prog w = .ok (shape3, Go.Extern.Stop.digits 8 (x % 2 ^ 64).toNat) w := by kernel_rfl
theorem ptr64 (w : World) : (FmtStop.ptrTo "errors.errorString").run Ybaf.prog w = .ok 64 w := by kernel_rfl
theorem elem64 (w : World) : (elemOf 64).run Ybaf.prog w = .ok 66 w := by kernel_rfl
attribute [local go_sem] call22 guardF printedN containsN op3 ptr64 elem64

set_option maxHeartbeats 400000 in
/-- fmt.Errorf(fmtN, two ints): a new error. -/
theorem errorf_any (m n : Int) (vb : Nat) (w : World) (h0 : w.cell? ⟨vb, 0, none⟩ = some (.iface 3 (.int .i64 m))) (h1 : w.cell? ⟨vb, 1, none⟩ = some (.iface 3 (.int .i64 n))) :
    Calls Ybaf.prog 14 #[.string fmtN, .slice (some ⟨vb, 0, none⟩) 2 2] w fun e w' => (∃ v, e = .returned (.iface 64 v)) ∧ Below w.heap.size w w' := by
  go_enter Ybaf.func14, Ybaf.ntmps14
  go_wp2
  go_ret
  exact ⟨⟨_, rfl⟩, ((Below.refl _ _).alloc (Nat.le_refl _) _).drew⟩

set_option maxHeartbeats 400000 in
theorem need_few (a : Option Addr) (len cap : Nat) (n : Int) (w : World) (h : (len : Int) < n) :
    Calls Ybaf.prog 11 #[.slice a len cap, .int .i64 n] w fun e w' => (∃ v, e = .returned (.iface 64 v)) ∧ Below w.heap.size w w' := by
  go_enter Ybaf.func11, Ybaf.ntmps11
  go_wp2_with fail
  refine (errorf_any len n w.heap.size (w.alloc (.cells #[.iface 3 (.int .i64 len), .iface 3 (.int .i64 n)] 20)) (by simp) (by simp)).mono ?_
  rintro e w1 ⟨⟨v, rfl⟩, hb⟩
  have HB : Hid (Below w.heap.size w w1) := ((Below.refl _ _).alloc (Nat.le_refl _) _).trans (hb.mono (by simp))
  clear hb
  go_wp2_with fail
  go_ret
  exact ⟨⟨_, rfl⟩, HB.out⟩

theorem need_ok (a : Option Addr) (len cap : Nat) (n : Int) (w : World) (h : ¬ (len : Int) < n) :
    Calls Ybaf.prog 11 #[.slice a len cap, .int .i64 n] w fun e w' => e = .returned .nilIface ∧ Below w.heap.size w w' := by
  go_enter Ybaf.func11, Ybaf.ntmps11
  go_wp2_with fail
  go_ret
  exact ⟨rfl, Below.refl _ _⟩

set_option maxHeartbeats 400000 in
theorem exact_any (a : Option Addr) (len cap : Nat) (n : Int) (w : World) :
    Calls Ybaf.prog 5 #[.slice a len cap, .int .i64 n] w fun e w' => e = .returned (.bool true) ∧ Below w.heap.size w w' := by
  by_cases h : (len : Int) < n
  · have h' : decide (n ≤ (len : Int)) = false := by simp; omega
    go_enter Ybaf.func5, Ybaf.ntmps5
    go_wp2_with fail
    refine (need_few a len cap n w h).mono ?_
    rintro e w1 ⟨⟨v, rfl⟩, hb⟩
    have HB : Hid (Below w.heap.size w w1) := hb
    clear hb
    go_wp2_with fail
    go_ret
    exact ⟨rfl, HB.out⟩
  · have h' : decide (n ≤ (len : Int)) = true := by simp; omega
    go_enter Ybaf.func5, Ybaf.ntmps5
    go_wp2_with fail
    refine (need_ok a len cap n w (by omega)).mono ?_
    rintro e w1 ⟨rfl, hb⟩
    have HB : Hid (Below w.heap.size w w1) := hb
    clear hb
    go_wp2_with fail
    go_ret
    exact ⟨rfl, HB.out⟩

set_option maxHeartbeats 400000 in
theorem boundary_any (a : Option Addr) (len cap : Nat) (d : Int) (w : World) (hd : -128 ≤ d ∧ d ≤ 127) :
    Calls Ybaf.prog 6 #[.slice a len cap, .int .i8 d] w fun e w' => e = .returned (.bool true) ∧ Below w.heap.size w w' := by
  obtain ⟨hd0, hd1⟩ := hd
  by_cases hl : (1048576 : Int) < (len : Int)
  · go_enter Ybaf.func6, Ybaf.ntmps6
    go_wp2_with fail
    go_ret
    exact ⟨rfl, Below.refl _ _⟩
  have hl' : (len : Int) ≤ 1048576 := by omega
  by_cases h : 0 < d
  · have h' : decide (d ≤ 0) = false := by simp; omega
    go_enter Ybaf.func6, Ybaf.ntmps6
    go_wp2_with fail
    refine (need_few a len cap ((len : Int) + d) w (by omega)).mono ?_
    rintro e w1 ⟨⟨v, rfl⟩, hb⟩
    have HB : Hid (Below w.heap.size w w1) := hb
    clear hb
    go_wp2_with fail
    go_ret
    exact ⟨rfl, HB.out⟩
  · have h' : decide (d ≤ 0) = true := by simp; omega
    go_enter Ybaf.func6, Ybaf.ntmps6
    go_wp2_with fail
    refine (need_ok a len cap ((len : Int) + d) w (by omega)).mono ?_
    rintro e w1 ⟨rfl, hb⟩
    have HB : Hid (Below w.heap.size w w1) := hb
    clear hb
    go_wp2_with fail
    go_ret
    exact ⟨rfl, HB.out⟩

end Go.Proofs.YbulkdcaiFmt
