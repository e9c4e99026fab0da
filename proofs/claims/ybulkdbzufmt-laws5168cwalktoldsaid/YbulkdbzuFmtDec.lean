/-
  The decoder's methods by their contracts: peek (9), read (8), errorf (11), ended (10), peekFor (7), readFor (5).
-/
import Derived.Test.YbulkdbzuFmtScan
import Derived.Deep.RegionWith
namespace Go.Proofs.YbulkdbzuFmt
open Go.RowKit Go.Extern.Stop Go.Stop Go.Extern
set_option linter.unusedVariables false

/-- The decoder's eight cells. -/
def dc (sb : Nat) (line col ol oc : Int) (what : ByteArray) : Array Value :=
  #[.iface 23 (.pointer (some ⟨sb, 0, none⟩)), .int .i64 line, .int .i64 col, .int .i64 ol, .int .i64 oc, .string what, .nilIface, .slice none 0 0]

theorem dc_cells {w : World} {b : Nat} {sb : Nat} {line col ol oc : Int} {what : ByteArray} (h : Bk w b (dc sb line col ol oc what) 36) :
    w.cell? ⟨b, 0, none⟩ = some (.iface 23 (.pointer (some ⟨sb, 0, none⟩))) ∧ w.cell? ⟨b, 1, none⟩ = some (.int .i64 line) ∧ w.cell? ⟨b, 2, none⟩ = some (.int .i64 col) ∧ w.cell? ⟨b, 3, none⟩ = some (.int .i64 ol) ∧
    w.cell? ⟨b, 4, none⟩ = some (.int .i64 oc) ∧ w.cell? ⟨b, 5, none⟩ = some (.string what) :=
  ⟨h.cell 0, h.cell 1, h.cell 2, h.cell 3, h.cell 4, h.cell 5⟩

theorem m_read (a : Addr) (w : World) : (method 179 23 (.pointer (some a)) "ReadByte").run Ybaf.prog w = .ok (28, .pointer (some a)) w := by kernel_rfl
theorem m_unread (a : Addr) (w : World) : (method 179 23 (.pointer (some a)) "UnreadByte").run Ybaf.prog w = .ok (29, .pointer (some a)) w := by kernel_rfl
attribute [local go_sem] m_read m_unread

set_option maxHeartbeats 400000 in
theorem peek_ok (sb db xb xo : Nat) (len cap : Nat) (i : Nat) (fa rd ur : Int) (c line col ol oc : Int) (what : ByteArray) (w : World)
    (hb : Bk w sb (sc (some ⟨xb, xo, none⟩) len cap i .nilIface fa .nilIface rd ur) 27) (hd : Bk w db (dc sb line col ol oc what) 36) (hne : sb ≠ db)
    (hi : i < len) (hi' : len ≤ 1024) (hr : 0 ≤ rd) (hr' : rd ≤ 100000) (hu : 0 ≤ ur) (hu' : ur ≤ 100000)
    (hx : xb ≠ sb) (hc : w.cell? ⟨xb, xo + i, none⟩ = some (.int .u8 c)) :
    Calls Ybaf.prog 9 #[.pointer (some ⟨db, 0, none⟩)] w fun e w' => e = .returned (.tuple #[.int .u8 c, .nilIface]) ∧
      Bk w' sb (sc (some ⟨xb, xo, none⟩) len cap i .nilIface fa .nilIface (rd + 1) (ur + 1)) 27 ∧ Fr sb sb w w' := by
  obtain ⟨d0, d1, d2, d3, d4, d5⟩ := dc_cells hd
  have H := hide hb
  have HD := hide hd
  clear hb hd
  go_enter Ybaf.func9, Ybaf.ntmps9
  go_wp2_with fail
  refine (readByte_ok sb sb xb xo len cap i fa rd ur .nilIface c w (unhide H) hi hi' hr hr' hx hc).mono ?_
  rintro e w1 ⟨rfl, hb1, hf1⟩
  have H1 := hide hb1
  have HF1 := hide hf1
  obtain ⟨e0, e1, e2, e3, e4, e5⟩ := dc_cells (hf1.bk (unhide HD) (fun h => hne h.symm) (fun h => hne h.symm))
  clear hb1 hf1
  go_wp2_with fail
  refine (unread_ok sb sb (some ⟨xb, xo, none⟩) len cap ((i + 1 : Nat) : Int) .nilIface fa (rd + 1) ur w1 (unhide H1) (by omega) (by omega) hu hu').mono ?_
  rintro e w2 ⟨rfl, hb2, hf2⟩
  rw [show (((i + 1 : Nat) : Int) - 1) = (i : Int) from by omega] at hb2
  have H2 := hide hb2
  have HF2 := hide hf2
  clear hb2 hf2
  go_wp2_with fail
  go_ret2
  exact ⟨rfl, unhide H2, (unhide HF1).trans (unhide HF2)⟩

set_option maxHeartbeats 400000 in
theorem peek_eof (sb db : Nat) (a : Option Addr) (len cap : Nat) (i : Nat) (fa rd ur : Int) (ue : Value) (eo : Addr) (line col ol oc : Int) (what : ByteArray) (w : World)
    (hb : Bk w sb (sc a len cap i .nilIface fa ue rd ur) 27) (hd : Bk w db (dc sb line col ol oc what) 36)
    (hi : len ≤ i) (hi' : len ≤ 1024) (hr : 0 ≤ rd) (hr' : rd ≤ 100000)
    (hx : 0 ≠ sb) (hc : w.cell? ⟨0, 0, none⟩ = some (.iface 48 (.pointer (some eo)))) :
    Calls Ybaf.prog 9 #[.pointer (some ⟨db, 0, none⟩)] w fun e w' => e = .returned (.tuple #[.int .u8 0, .iface 48 (.pointer (some eo))]) ∧
      Bk w' sb (sc a len cap i .nilIface fa ue (rd + 1) ur) 27 ∧ Fr sb sb w w' := by
  obtain ⟨d0, d1, d2, d3, d4, d5⟩ := dc_cells hd
  have H := hide hb
  clear hb hd
  go_enter Ybaf.func9, Ybaf.ntmps9
  go_wp2_with fail
  refine (readByte_eof sb sb a len cap i fa rd ur ue eo w (unhide H) hi hi' hr hr' hx hc).mono ?_
  rintro e w1 ⟨rfl, hb1, hf1⟩
  have H1 := hide hb1
  have HF1 := hide hf1
  clear hb1 hf1
  go_wp2_with fail
  go_ret2
  exact ⟨rfl, unhide H1, unhide HF1⟩

set_option maxHeartbeats 400000 in
theorem peek_fail (sb db : Nat) (a : Option Addr) (len cap : Nat) (i : Int) (rd ur : Int) (ue u : Value) (line col ol oc : Int) (what : ByteArray) (w : World)
    (hb : Bk w sb (sc a len cap i (.iface 48 u) i ue rd ur) 27) (hd : Bk w db (dc sb line col ol oc what) 36)
    (hr : 0 ≤ rd) (hr' : rd ≤ 100000) :
    Calls Ybaf.prog 9 #[.pointer (some ⟨db, 0, none⟩)] w fun e w' => e = .returned (.tuple #[.int .u8 0, .iface 48 u]) ∧
      Bk w' sb (sc a len cap i (.iface 48 u) i ue (rd + 1) ur) 27 ∧ Fr sb sb w w' := by
  obtain ⟨d0, d1, d2, d3, d4, d5⟩ := dc_cells hd
  have H := hide hb
  clear hb hd
  go_enter Ybaf.func9, Ybaf.ntmps9
  go_wp2_with fail
  refine (readByte_fail sb sb a len cap i rd ur ue u w (unhide H) hr hr').mono ?_
  rintro e w1 ⟨rfl, hb1, hf1⟩
  have H1 := hide hb1
  have HF1 := hide hf1
  clear hb1 hf1
  go_wp2_with fail
  go_ret2
  exact ⟨rfl, unhide H1, unhide HF1⟩

set_option maxHeartbeats 400000 in
theorem peek_unfail (sb db xb xo : Nat) (len cap : Nat) (i : Nat) (fa rd ur : Int) (u : Value) (c line col ol oc : Int) (what : ByteArray) (w : World)
    (hb : Bk w sb (sc (some ⟨xb, xo, none⟩) len cap i .nilIface fa (.iface 48 u) rd ur) 27) (hd : Bk w db (dc sb line col ol oc what) 36) (hne : sb ≠ db)
    (hi : i < len) (hi' : len ≤ 1024) (hr : 0 ≤ rd) (hr' : rd ≤ 100000) (hu : 0 ≤ ur) (hu' : ur ≤ 100000)
    (hx : xb ≠ sb) (hc : w.cell? ⟨xb, xo + i, none⟩ = some (.int .u8 c)) :
    Calls Ybaf.prog 9 #[.pointer (some ⟨db, 0, none⟩)] w fun e w' => e = .returned (.tuple #[.int .u8 c, .iface 48 u]) ∧
      Bk w' sb (sc (some ⟨xb, xo, none⟩) len cap (i + 1 : Nat) .nilIface fa (.iface 48 u) (rd + 1) (ur + 1)) 27 ∧ Fr sb sb w w' := by
  obtain ⟨d0, d1, d2, d3, d4, d5⟩ := dc_cells hd
  have H := hide hb
  have HD := hide hd
  clear hb hd
  go_enter Ybaf.func9, Ybaf.ntmps9
  go_wp2_with fail
  refine (readByte_ok sb sb xb xo len cap i fa rd ur (.iface 48 u) c w (unhide H) hi hi' hr hr' hx hc).mono ?_
  rintro e w1 ⟨rfl, hb1, hf1⟩
  have H1 := hide hb1
  have HF1 := hide hf1
  obtain ⟨e0, e1, e2, e3, e4, e5⟩ := dc_cells (hf1.bk (unhide HD) (fun h => hne h.symm) (fun h => hne h.symm))
  clear hb1 hf1
  go_wp2_with fail
  refine (unread_fail sb sb (some ⟨xb, xo, none⟩) len cap ((i + 1 : Nat) : Int) .nilIface fa (rd + 1) ur u w1 (unhide H1) hu hu').mono ?_
  rintro e w2 ⟨rfl, hb2, hf2⟩
  have H2 := hide hb2
  have HF2 := hide hf2
  clear hb2 hf2
  go_wp2_with fail
  go_ret2
  exact ⟨rfl, unhide H2, (unhide HF1).trans (unhide HF2)⟩

end Go.Proofs.YbulkdbzuFmt
