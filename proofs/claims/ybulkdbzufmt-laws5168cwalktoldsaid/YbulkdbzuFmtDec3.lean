/-
  The decoder's methods, further: peekFor (7), readFor (5).
-/
import Derived.Test.YbulkdbzuFmtDec2
namespace Go.Proofs.YbulkdbzuFmt
open Go.RowKit Go.Extern.Stop Go.Stop Go.Extern
set_option linter.unusedVariables false

theorem comp48 : (Ybaf.prog.info? 48).map (·.comparable) = some true := by kernel_rfl
theorem size50 : (Ybaf.prog.info? 50).map (·.size) = some 1 := by kernel_rfl
theorem under25 : Ybaf.prog.underlying 25 = some (.interface #[("Error", 57)]) := by kernel_rfl

/-- '==' between two errors of errors.New's make. -/
theorem eq_same (a : Addr) (w : World) : (binOp .eql 25 (.iface 48 (.pointer (some a))) (.iface 48 (.pointer (some a)))).run Ybaf.prog w = .ok (.bool true) w := by
  obtain ⟨i, hi, hcmp⟩ := Option.map_eq_some_iff.1 comp48
  obtain ⟨j, hj, hsz⟩ := Option.map_eq_some_iff.1 size50
  exact run_eql_iface_ptr_same w a under25 Ybaf.underlying48 hi hcmp hj
theorem eq_other (a b : Addr) (ca cb : Array Value) (ta tb : TypeId) (w : World) (hne : a.block ≠ b.block) (ha : w.heap[a.block]? = some (.cells ca ta (0, 0))) (hb : w.heap[b.block]? = some (.cells cb tb (0, 0))) :
    (binOp .eql 25 (.iface 48 (.pointer (some a))) (.iface 48 (.pointer (some b)))).run Ybaf.prog w = .ok (.bool false) w := by
  obtain ⟨i, hi, hcmp⟩ := Option.map_eq_some_iff.1 comp48
  obtain ⟨j, hj, hsz⟩ := Option.map_eq_some_iff.1 size50
  exact run_eql_iface_ptr_other w under25 Ybaf.underlying48 hi hcmp hj (by omega) (fun h => hne (by rw [h])) ha hb
theorem eq_nil (v : Value) (w : World) : (binOp .eql 25 .nilIface (.iface 48 v)).run Ybaf.prog w = .ok (.bool false) w :=
  run_eql_iface_nil_left w 48 v under25
attribute [local go_sem] eq_same eq_nil

set_option maxHeartbeats 400000 in
theorem peekFor_ok (sb db xb xo : Nat) (len cap : Nat) (i : Nat) (fa rd ur : Int) (eo : Addr) (c line col ol oc : Int) (what want : ByteArray) (w : World)
    (hb : Bk w sb (sc (some ⟨xb, xo, none⟩) len cap i .nilIface fa .nilIface rd ur) 27) (hd : Bk w db (dc sb line col ol oc what) 36) (hne : sb ≠ db)
    (hi : i < len) (hi' : len ≤ 1024) (hr : 0 ≤ rd) (hr' : rd ≤ 100000) (hu : 0 ≤ ur) (hu' : ur ≤ 100000)
    (hx : xb ≠ sb) (hc : w.cell? ⟨xb, xo + i, none⟩ = some (.int .u8 c)) (h0 : 0 ≠ sb) (hg : w.cell? ⟨0, 0, none⟩ = some (.iface 48 (.pointer (some eo)))) :
    Calls Ybaf.prog 7 #[.pointer (some ⟨db, 0, none⟩), .string want] w fun e w' => e = .returned (.tuple #[.int .u8 c, .nilIface]) ∧
      Bk w' sb (sc (some ⟨xb, xo, none⟩) len cap i .nilIface fa .nilIface (rd + 1) (ur + 1)) 27 ∧ Fr sb sb w w' := by
  go_enter Ybaf.func7, Ybaf.ntmps7
  go_wp2_with fail
  refine (peek_ok sb db xb xo len cap i fa rd ur c line col ol oc what w hb hd hne hi hi' hr hr' hu hu' hx hc).mono ?_
  rintro e w1 ⟨rfl, hb1, hf1⟩
  have g1 := hf1.cell hg h0 h0
  have H1 := hide hb1
  have HF1 := hide hf1
  clear hb1 hf1
  go_wp2_with fail
  go_ret2
  exact ⟨rfl, unhide H1, unhide HF1⟩

/-- What the position is that the error at the end bears. -/
def AtEnd (line col ol oc : Int) (what : ByteArray) (L C : Int) : Prop := (what.toList.isEmpty = true ∧ L = line ∧ C = col) ∨ (what.toList.isEmpty = false ∧ L = ol ∧ C = oc)

theorem ended_any (sb db : Nat) (line col ol oc L C : Int) (what want : ByteArray) (w : World) (hd : Bk w db (dc sb line col ol oc what) 36) (hL : AtEnd line col ol oc what L C) :
    Calls Ybaf.prog 10 #[.pointer (some ⟨db, 0, none⟩), .string want] w fun e w' => ∃ v, e = .returned v ∧ NewErr L C w v w' := by
  rcases hL with ⟨h, rfl, rfl⟩ | ⟨h, rfl, rfl⟩
  · exact ended_out sb db L C ol oc what want w hd h
  · exact ended_in sb db line col L C what want w hd h

set_option maxHeartbeats 400000 in
theorem peekFor_eof (sb db : Nat) (a : Option Addr) (len cap : Nat) (i : Nat) (fa rd ur : Int) (ue : Value) (eo : Addr) (line col ol oc L C : Int) (what want : ByteArray) (w : World)
    (hb : Bk w sb (sc a len cap i .nilIface fa ue rd ur) 27) (hd : Bk w db (dc sb line col ol oc what) 36) (hne : sb ≠ db)
    (hi : len ≤ i) (hi' : len ≤ 1024) (hr : 0 ≤ rd) (hr' : rd ≤ 100000)
    (h0 : 0 ≠ sb) (hg : w.cell? ⟨0, 0, none⟩ = some (.iface 48 (.pointer (some eo)))) (hL : AtEnd line col ol oc what L C) :
    Calls Ybaf.prog 7 #[.pointer (some ⟨db, 0, none⟩), .string want] w fun e w' => ∃ k t, e = .returned (.tuple #[.int .u8 0, .iface 39 (.pointer (some ⟨k, 0, none⟩))]) ∧
      w.heap.size ≤ k ∧ Bk w' k #[.int .i64 L, .int .i64 C, .string t] 42 ∧ Bk w' sb (sc a len cap i .nilIface fa ue (rd + 1) ur) 27 ∧ Fr sb sb w w' := by
  have HL := hide hL
  clear hL
  go_enter Ybaf.func7, Ybaf.ntmps7
  go_wp2_with fail
  refine (peek_eof sb db a len cap i fa rd ur ue eo line col ol oc what w hb hd hi hi' hr hr' h0 hg).mono ?_
  rintro e w1 ⟨rfl, hb1, hf1⟩
  have g1 := hf1.cell hg h0 h0
  have HD1 := hide (hf1.bk hd (fun h => hne h.symm) (fun h => hne h.symm))
  have H1 := hide hb1
  have HF1 := hide hf1
  clear hb1 hf1 hb hd
  go_wp2_with fail
  refine (ended_any sb db line col ol oc L C what want w1 (unhide HD1) (unhide HL)).mono ?_
  rintro e w2 ⟨v, rfl, k, t, rfl, hk, hbk, hbl⟩
  have hK : w.heap.size ≤ k := Nat.le_trans (unhide HF1).size hk
  have HB := hide hbl
  have HK := hide hbk
  clear hbl hbk hk
  go_wp2_with fail
  go_ret2
  refine ⟨k, t, rfl, hK, unhide HK, ?_, ?_⟩
  · have h := unhide H1
    have hl := h.lt
    unfold Bk at h ⊢
    rw [(unhide HB).block sb hl]; exact h
  · have h := unhide HB
    exact (unhide HF1).trans ⟨h.os, h.tape, h.output, h.size, fun j hj _ _ => h.block j hj⟩

set_option maxHeartbeats 400000 in
theorem peekFor_fail (sb db : Nat) (a : Option Addr) (len cap : Nat) (i : Int) (rd ur : Int) (ue : Value) (eo au : Addr) (ce ca : Array Value) (te ta : TypeId) (line col ol oc : Int) (what want : ByteArray) (w : World)
    (hb : Bk w sb (sc a len cap i (.iface 48 (.pointer (some au))) i ue rd ur) 27) (hd : Bk w db (dc sb line col ol oc what) 36)
    (hr : 0 ≤ rd) (hr' : rd ≤ 100000)
    (h0 : 0 ≠ sb) (hg : w.cell? ⟨0, 0, none⟩ = some (.iface 48 (.pointer (some eo)))) (hau : Bk w au.block ca ta) (heo : Bk w eo.block ce te) (n1 : au.block ≠ sb) (n2 : eo.block ≠ sb) (n3 : au.block ≠ eo.block) :
    Calls Ybaf.prog 7 #[.pointer (some ⟨db, 0, none⟩), .string want] w fun e w' => e = .returned (.tuple #[.int .u8 0, .iface 48 (.pointer (some au))]) ∧
      Bk w' sb (sc a len cap i (.iface 48 (.pointer (some au))) i ue (rd + 1) ur) 27 ∧ Fr sb sb w w' := by
  go_enter Ybaf.func7, Ybaf.ntmps7
  go_wp2_with fail
  refine (peek_fail sb db a len cap i rd ur ue (.pointer (some au)) line col ol oc what w hb hd hr hr').mono ?_
  rintro e w1 ⟨rfl, hb1, hf1⟩
  have g1 := hf1.cell hg h0 h0
  have q1 := eq_other au eo ca ce ta te w1 n3 (hf1.bk hau n1 n1) (hf1.bk heo n2 n2)
  have H1 := hide hb1
  have HF1 := hide hf1
  clear hb1 hf1 hb hd hau heo
  go_wp2_with fail
  go_ret2
  exact ⟨rfl, unhide H1, unhide HF1⟩

set_option maxHeartbeats 400000 in
theorem peekFor_unfail (sb db xb xo : Nat) (len cap : Nat) (i : Nat) (fa rd ur : Int) (eo au : Addr) (ce ca : Array Value) (te ta : TypeId) (c line col ol oc : Int) (what want : ByteArray) (w : World)
    (hb : Bk w sb (sc (some ⟨xb, xo, none⟩) len cap i .nilIface fa (.iface 48 (.pointer (some au))) rd ur) 27) (hd : Bk w db (dc sb line col ol oc what) 36) (hne : sb ≠ db)
    (hi : i < len) (hi' : len ≤ 1024) (hr : 0 ≤ rd) (hr' : rd ≤ 100000) (hu : 0 ≤ ur) (hu' : ur ≤ 100000)
    (hx : xb ≠ sb) (hc : w.cell? ⟨xb, xo + i, none⟩ = some (.int .u8 c))
    (h0 : 0 ≠ sb) (hg : w.cell? ⟨0, 0, none⟩ = some (.iface 48 (.pointer (some eo)))) (hau : Bk w au.block ca ta) (heo : Bk w eo.block ce te) (n1 : au.block ≠ sb) (n2 : eo.block ≠ sb) (n3 : au.block ≠ eo.block) :
    Calls Ybaf.prog 7 #[.pointer (some ⟨db, 0, none⟩), .string want] w fun e w' => e = .returned (.tuple #[.int .u8 c, .iface 48 (.pointer (some au))]) ∧
      Bk w' sb (sc (some ⟨xb, xo, none⟩) len cap (i + 1 : Nat) .nilIface fa (.iface 48 (.pointer (some au))) (rd + 1) (ur + 1)) 27 ∧ Fr sb sb w w' := by
  go_enter Ybaf.func7, Ybaf.ntmps7
  go_wp2_with fail
  refine (peek_unfail sb db xb xo len cap i fa rd ur (.pointer (some au)) c line col ol oc what w hb hd hne hi hi' hr hr' hu hu' hx hc).mono ?_
  rintro e w1 ⟨rfl, hb1, hf1⟩
  have g1 := hf1.cell hg h0 h0
  have q1 := eq_other au eo ca ce ta te w1 n3 (hf1.bk hau n1 n1) (hf1.bk heo n2 n2)
  have H1 := hide hb1
  have HF1 := hide hf1
  clear hb1 hf1 hb hd hau heo
  go_wp2_with fail
  go_ret2
  exact ⟨rfl, unhide H1, unhide HF1⟩

set_option maxHeartbeats 400000 in
/-- readFor, a byte being there: it is handed out, the scanner stands behind it, the position has moved. -/
theorem readFor_ok (sb db xb xo : Nat) (len cap : Nat) (i : Nat) (fa rd ur : Int) (eo : Addr) (c line col ol oc : Int) (what want : ByteArray) (w : World)
    (hb : Bk w sb (sc (some ⟨xb, xo, none⟩) len cap i .nilIface fa .nilIface rd ur) 27) (hd : Bk w db (dc sb line col ol oc what) 36) (hne : sb ≠ db)
    (hi : i < len) (hi' : len ≤ 1024) (hr : 0 ≤ rd) (hr' : rd ≤ 90000) (hu : 0 ≤ ur) (hu' : ur ≤ 90000)
    (hx : xb ≠ sb) (hc : w.cell? ⟨xb, xo + i, none⟩ = some (.int .u8 c)) (h0 : 0 ≠ sb) (hg : w.cell? ⟨0, 0, none⟩ = some (.iface 48 (.pointer (some eo)))) :
    Calls Ybaf.prog 5 #[.pointer (some ⟨db, 0, none⟩), .string want] w fun e w' => e = .returned (.tuple #[.int .u8 c, .nilIface]) ∧
      Bk w' sb (sc (some ⟨xb, xo, none⟩) len cap (i + 1 : Nat) .nilIface fa .nilIface (rd + 2) (ur + 1)) 27 ∧ Bk w' db (dc sb (nextL c line) (nextC c col) ol oc what) 36 ∧ Fr sb db w w' := by
  go_enter Ybaf.func5, Ybaf.ntmps5
  go_wp2_with fail
  refine (peekFor_ok sb db xb xo len cap i fa rd ur eo c line col ol oc what want w hb hd hne hi hi' hr (by omega) hu (by omega) hx hc h0 hg).mono ?_
  rintro e w1 ⟨rfl, hb1, hf1⟩
  have hc1 := hf1.cell hc hx hx
  have HD1 := hide (hf1.bk hd (fun h => hne h.symm) (fun h => hne h.symm))
  have H1 := hide hb1
  have HF1 := hide hf1
  clear hb1 hf1 hb hd
  go_wp2_with fail
  refine (read_ok sb db xb xo len cap i fa (rd + 1) (ur + 1) .nilIface c line col ol oc what w1 (unhide H1) (unhide HD1) hne hi hi' (by omega) (by omega) hx hc1).mono ?_
  rintro e w2 ⟨rfl, hb2, hd2, hf2⟩
  rw [show rd + 1 + 1 = rd + 2 from by omega] at hb2
  have H2 := hide hb2
  have HD2 := hide hd2
  have HF2 := hide hf2
  clear hb2 hd2 hf2
  go_wp2_with fail
  go_ret2
  exact ⟨rfl, unhide H2, unhide HD2, ((unhide HF1).wide).trans (unhide HF2)⟩

set_option maxHeartbeats 400000 in
theorem readFor_eof (sb db : Nat) (a : Option Addr) (len cap : Nat) (i : Nat) (fa rd ur : Int) (ue : Value) (eo : Addr) (line col ol oc L C : Int) (what want : ByteArray) (w : World)
    (hb : Bk w sb (sc a len cap i .nilIface fa ue rd ur) 27) (hd : Bk w db (dc sb line col ol oc what) 36) (hne : sb ≠ db)
    (hi : len ≤ i) (hi' : len ≤ 1024) (hr : 0 ≤ rd) (hr' : rd ≤ 100000)
    (h0 : 0 ≠ sb) (hg : w.cell? ⟨0, 0, none⟩ = some (.iface 48 (.pointer (some eo)))) (hL : AtEnd line col ol oc what L C) :
    Calls Ybaf.prog 5 #[.pointer (some ⟨db, 0, none⟩), .string want] w fun e w' => ∃ k t, e = .returned (.tuple #[.int .u8 0, .iface 39 (.pointer (some ⟨k, 0, none⟩))]) ∧
      w.heap.size ≤ k ∧ Bk w' k #[.int .i64 L, .int .i64 C, .string t] 42 ∧ Bk w' sb (sc a len cap i .nilIface fa ue (rd + 1) ur) 27 ∧ Fr sb sb w w' := by
  go_enter Ybaf.func5, Ybaf.ntmps5
  go_wp2_with fail
  refine (peekFor_eof sb db a len cap i fa rd ur ue eo line col ol oc L C what want w hb hd hne hi hi' hr hr' h0 hg hL).mono ?_
  rintro e w1 ⟨k, t, rfl, hk, hbk, hb1, hf1⟩
  have HP := hide (And.intro hk (And.intro hbk (And.intro hb1 hf1)))
  clear hk hbk hb1 hf1 hb hd hL
  go_wp2_with fail
  go_ret2
  exact ⟨k, t, rfl, unhide HP⟩

set_option maxHeartbeats 400000 in
theorem readFor_fail (sb db : Nat) (a : Option Addr) (len cap : Nat) (i : Int) (rd ur : Int) (ue : Value) (eo au : Addr) (ce ca : Array Value) (te ta : TypeId) (line col ol oc : Int) (what want : ByteArray) (w : World)
    (hb : Bk w sb (sc a len cap i (.iface 48 (.pointer (some au))) i ue rd ur) 27) (hd : Bk w db (dc sb line col ol oc what) 36)
    (hr : 0 ≤ rd) (hr' : rd ≤ 100000)
    (h0 : 0 ≠ sb) (hg : w.cell? ⟨0, 0, none⟩ = some (.iface 48 (.pointer (some eo)))) (hau : Bk w au.block ca ta) (heo : Bk w eo.block ce te) (n1 : au.block ≠ sb) (n2 : eo.block ≠ sb) (n3 : au.block ≠ eo.block) :
    Calls Ybaf.prog 5 #[.pointer (some ⟨db, 0, none⟩), .string want] w fun e w' => e = .returned (.tuple #[.int .u8 0, .iface 48 (.pointer (some au))]) ∧
      Bk w' sb (sc a len cap i (.iface 48 (.pointer (some au))) i ue (rd + 1) ur) 27 ∧ Fr sb sb w w' := by
  go_enter Ybaf.func5, Ybaf.ntmps5
  go_wp2_with fail
  refine (peekFor_fail sb db a len cap i rd ur ue eo au ce ca te ta line col ol oc what want w hb hd hr hr' h0 hg hau heo n1 n2 n3).mono ?_
  rintro e w1 ⟨rfl, hb1, hf1⟩
  have H1 := hide hb1
  have HF1 := hide hf1
  clear hb1 hf1 hb hd hau heo
  go_wp2_with fail
  go_ret2
  exact ⟨rfl, unhide H1, unhide HF1⟩

set_option maxHeartbeats 400000 in
theorem readFor_unfail (sb db xb xo : Nat) (len cap : Nat) (i : Nat) (fa rd ur : Int) (eo au : Addr) (ce ca : Array Value) (te ta : TypeId) (c line col ol oc : Int) (what want : ByteArray) (w : World)
    (hb : Bk w sb (sc (some ⟨xb, xo, none⟩) len cap i .nilIface fa (.iface 48 (.pointer (some au))) rd ur) 27) (hd : Bk w db (dc sb line col ol oc what) 36) (hne : sb ≠ db)
    (hi : i < len) (hi' : len ≤ 1024) (hr : 0 ≤ rd) (hr' : rd ≤ 100000) (hu : 0 ≤ ur) (hu' : ur ≤ 100000)
    (hx : xb ≠ sb) (hc : w.cell? ⟨xb, xo + i, none⟩ = some (.int .u8 c))
    (h0 : 0 ≠ sb) (hg : w.cell? ⟨0, 0, none⟩ = some (.iface 48 (.pointer (some eo)))) (hau : Bk w au.block ca ta) (heo : Bk w eo.block ce te) (n1 : au.block ≠ sb) (n2 : eo.block ≠ sb) (n3 : au.block ≠ eo.block) :
    Calls Ybaf.prog 5 #[.pointer (some ⟨db, 0, none⟩), .string want] w fun e w' => e = .returned (.tuple #[.int .u8 c, .iface 48 (.pointer (some au))]) ∧
      Bk w' sb (sc (some ⟨xb, xo, none⟩) len cap (i + 1 : Nat) .nilIface fa (.iface 48 (.pointer (some au))) (rd + 1) (ur + 1)) 27 ∧ Fr sb sb w w' := by
  go_enter Ybaf.func5, Ybaf.ntmps5
  go_wp2_with fail
  refine (peekFor_unfail sb db xb xo len cap i fa rd ur eo au ce ca te ta c line col ol oc what want w hb hd hne hi hi' hr hr' hu hu' hx hc h0 hg hau heo n1 n2 n3).mono ?_
  rintro e w1 ⟨rfl, hb1, hf1⟩
  have H1 := hide hb1
  have HF1 := hide hf1
  clear hb1 hf1 hb hd hau heo
  go_wp2_with fail
  go_ret2
  exact ⟨rfl, unhide H1, unhide HF1⟩

end Go.Proofs.YbulkdbzuFmt
