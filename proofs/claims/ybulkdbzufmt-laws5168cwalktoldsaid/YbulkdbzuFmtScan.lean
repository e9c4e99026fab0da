/-
  The scanner's two methods by their contracts: (*zzs5168cscan).ReadByte (28) and UnreadByte (29).
-/
import Derived.Test.YbulkdbzuFmtBase
import Derived.Deep.QuietTactic
import Derived.BigQuiet
namespace Go.Proofs.YbulkdbzuFmt
open Go.RowKit Go.Extern.Stop Go.Stop Go.Extern
set_option linter.unusedVariables false

/-- The scanner's seven cells. -/
def sc (a : Option Addr) (len cap : Nat) (i : Int) (re : Value) (fa : Int) (ue : Value) (rd ur : Int) : Array Value :=
  #[.slice a len cap, .int .i64 i, re, .int .i64 fa, ue, .int .i64 rd, .int .i64 ur]

theorem sc_cells {w : World} {b : Nat} {a : Option Addr} {len cap : Nat} {i : Int} {re : Value} {fa : Int} {ue : Value} {rd ur : Int} (h : Bk w b (sc a len cap i re fa ue rd ur) 27) :
    w.cell? ⟨b, 0, none⟩ = some (.slice a len cap) ∧ w.cell? ⟨b, 1, none⟩ = some (.int .i64 i) ∧ w.cell? ⟨b, 2, none⟩ = some re ∧ w.cell? ⟨b, 3, none⟩ = some (.int .i64 fa) ∧
    w.cell? ⟨b, 4, none⟩ = some ue ∧ w.cell? ⟨b, 5, none⟩ = some (.int .i64 rd) ∧ w.cell? ⟨b, 6, none⟩ = some (.int .i64 ur) :=
  ⟨h.cell 0, h.cell 1, h.cell 2, h.cell 3, h.cell 4, h.cell 5, h.cell 6⟩

set_option maxHeartbeats 400000 in
theorem unread_ok (sb db : Nat) (a : Option Addr) (len cap : Nat) (i : Int) (re : Value) (fa rd ur : Int) (w : World)
    (hb : Bk w sb (sc a len cap i re fa .nilIface rd ur) 27) (hi : 0 < i) (hi' : i ≤ 100000) (hu : 0 ≤ ur) (hu' : ur ≤ 100000) :
    Calls Ybaf.prog 29 #[.pointer (some ⟨sb, 0, none⟩)] w fun e w' => e = .returned .nilIface ∧ Bk w' sb (sc a len cap (i - 1) re fa .nilIface rd (ur + 1)) 27 ∧ Fr sb db w w' := by
  obtain ⟨c0, c1, c2, c3, c4, c5, c6⟩ := sc_cells hb
  have f1 := hb.frozen 1
  have f6 := hb.frozen 6
  have H : Hid (Bk w sb (sc a len cap i re fa .nilIface rd ur) 27) := hb
  clear hb
  go_enter Ybaf.func29, Ybaf.ntmps29
  go_wp2
  go_ret
  exact ⟨rfl, ((H.out.set 6 _).set 1 _), ((Fr.refl _ _ _).setS 6 _).setS 1 _⟩

set_option maxHeartbeats 400000 in
theorem unread_fail (sb db : Nat) (a : Option Addr) (len cap : Nat) (i : Int) (re : Value) (fa rd ur : Int) (u : Value) (w : World)
    (hb : Bk w sb (sc a len cap i re fa (.iface 48 u) rd ur) 27) (hu : 0 ≤ ur) (hu' : ur ≤ 100000) :
    Calls Ybaf.prog 29 #[.pointer (some ⟨sb, 0, none⟩)] w fun e w' => e = .returned (.iface 48 u) ∧ Bk w' sb (sc a len cap i re fa (.iface 48 u) rd (ur + 1)) 27 ∧ Fr sb db w w' := by
  obtain ⟨c0, c1, c2, c3, c4, c5, c6⟩ := sc_cells hb
  have f6 := hb.frozen 6
  have H : Hid (Bk w sb (sc a len cap i re fa (.iface 48 u) rd ur) 27) := hb
  clear hb
  go_enter Ybaf.func29, Ybaf.ntmps29
  go_wp2
  go_ret
  exact ⟨rfl, H.out.set 6 _, (Fr.refl _ _ _).setS 6 _⟩

set_option maxHeartbeats 400000 in
/-- A byte is there: it is handed out, the place moves on. -/
theorem readByte_ok (sb db xb xo : Nat) (len cap : Nat) (i : Nat) (fa rd ur : Int) (ue : Value) (c : Int) (w : World)
    (hb : Bk w sb (sc (some ⟨xb, xo, none⟩) len cap i .nilIface fa ue rd ur) 27) (hi : i < len) (hi' : len ≤ 1024) (hr : 0 ≤ rd) (hr' : rd ≤ 100000)
    (hx : xb ≠ sb) (hc : w.cell? ⟨xb, xo + i, none⟩ = some (.int .u8 c)) :
    Calls Ybaf.prog 28 #[.pointer (some ⟨sb, 0, none⟩)] w fun e w' => e = .returned (.tuple #[.int .u8 c, .nilIface]) ∧ Bk w' sb (sc (some ⟨xb, xo, none⟩) len cap (i + 1 : Nat) .nilIface fa ue (rd + 1) ur) 27 ∧ Fr sb db w w' := by
  obtain ⟨c0, c1, c2, c3, c4, c5, c6⟩ := sc_cells hb
  have f1 := hb.frozen 1
  have f5 := hb.frozen 5
  have H : Hid (Bk w sb (sc (some ⟨xb, xo, none⟩) len cap i .nilIface fa ue rd ur) 27) := hb
  clear hb
  have hx' : sb ≠ xb := fun h => hx h.symm
  have hlt : (i : Int) < (len : Int) := by omega
  go_enter Ybaf.func28, Ybaf.ntmps28
  go_wp2
  go_quiet (fail)
  go_wp2
  go_quiet (fail)
  go_wp2
  go_quiet (fail)
  go_wp2
  go_ret2
  refine ⟨rfl, ?_, ?_⟩
  · exact (H.out.set 5 (.int .i64 (rd + 1))).set 1 (.int .i64 ((i : Int) + 1))
  · have h := ((Fr.refl sb db w).setS 5 (.int .i64 (rd + 1))).setS 1 (.int .i64 ((i : Int) + 1))
    exact ⟨h.os, h.tape, h.output, h.size, h.block⟩

set_option maxHeartbeats 400000 in
/-- At the end of the data: io.EOF's own value. -/
theorem readByte_eof (sb db : Nat) (a : Option Addr) (len cap : Nat) (i : Nat) (fa rd ur : Int) (ue : Value) (eo : Addr) (w : World)
    (hb : Bk w sb (sc a len cap i .nilIface fa ue rd ur) 27) (hi : len ≤ i) (hi' : len ≤ 1024) (hr : 0 ≤ rd) (hr' : rd ≤ 100000)
    (hx : 0 ≠ sb) (hc : w.cell? ⟨0, 0, none⟩ = some (.iface 48 (.pointer (some eo)))) :
    Calls Ybaf.prog 28 #[.pointer (some ⟨sb, 0, none⟩)] w fun e w' => e = .returned (.tuple #[.int .u8 0, .iface 48 (.pointer (some eo))]) ∧ Bk w' sb (sc a len cap i .nilIface fa ue (rd + 1) ur) 27 ∧ Fr sb db w w' := by
  obtain ⟨c0, c1, c2, c3, c4, c5, c6⟩ := sc_cells hb
  have f5 := hb.frozen 5
  have H : Hid (Bk w sb (sc a len cap i .nilIface fa ue rd ur) 27) := hb
  clear hb
  have hx' : sb ≠ 0 := fun h => hx h.symm
  have hlt : ¬ (i : Int) < (len : Int) := by omega
  go_enter Ybaf.func28, Ybaf.ntmps28
  go_wp2
  go_quiet (fail)
  go_wp2
  go_quiet (fail)
  go_wp2
  go_quiet (fail)
  go_wp2
  go_ret2
  refine ⟨rfl, H.out.set 5 (.int .i64 (rd + 1)), ?_⟩
  have h := (Fr.refl sb db w).setS 5 (.int .i64 (rd + 1))
  exact ⟨h.os, h.tape, h.output, h.size, h.block⟩

set_option maxHeartbeats 400000 in
/-- The scanner is told to fail here. -/
theorem readByte_fail (sb db : Nat) (a : Option Addr) (len cap : Nat) (i rd ur : Int) (ue u : Value) (w : World)
    (hb : Bk w sb (sc a len cap i (.iface 48 u) i ue rd ur) 27) (hr : 0 ≤ rd) (hr' : rd ≤ 100000) :
    Calls Ybaf.prog 28 #[.pointer (some ⟨sb, 0, none⟩)] w fun e w' => e = .returned (.tuple #[.int .u8 0, .iface 48 u]) ∧ Bk w' sb (sc a len cap i (.iface 48 u) i ue (rd + 1) ur) 27 ∧ Fr sb db w w' := by
  obtain ⟨c0, c1, c2, c3, c4, c5, c6⟩ := sc_cells hb
  have f5 := hb.frozen 5
  have H : Hid (Bk w sb (sc a len cap i (.iface 48 u) i ue rd ur) 27) := hb
  clear hb
  go_enter Ybaf.func28, Ybaf.ntmps28
  go_wp2
  go_quiet (fail)
  go_wp2
  go_quiet (fail)
  go_wp2
  go_ret2
  refine ⟨rfl, H.out.set 5 (.int .i64 (rd + 1)), ?_⟩
  have h := (Fr.refl sb db w).setS 5 (.int .i64 (rd + 1))
  exact ⟨h.os, h.tape, h.output, h.size, h.block⟩

end Go.Proofs.YbulkdbzuFmt
