/-
  The decoder's methods, further: ended (10), read (8).
-/
import Derived.Test.YbulkdbzuFmtDoor
namespace Go.Proofs.YbulkdbzuFmt
open Go.RowKit Go.Extern.Stop Go.Stop Go.Extern
set_option linter.unusedVariables false
attribute [local go_sem] m_read m_unread

/-- A new error of the package's own type: where it lies, what it bears. -/
def NewErr (line col : Int) (w : World) (v : Value) (w' : World) : Prop :=
  ∃ k t, v = .iface 39 (.pointer (some ⟨k, 0, none⟩)) ∧ w.heap.size ≤ k ∧ Bk w' k #[.int .i64 line, .int .i64 col, .string t] 42 ∧ Below w.heap.size w w'

set_option maxHeartbeats 400000 in
theorem ended_out (sb db : Nat) (line col ol oc : Int) (what want : ByteArray) (w : World) (hd : Bk w db (dc sb line col ol oc what) 36) (hw : what.toList.isEmpty = true) :
    Calls Ybaf.prog 10 #[.pointer (some ⟨db, 0, none⟩), .string want] w fun e w' => ∃ v, e = .returned v ∧ NewErr line col w v w' := by
  obtain ⟨d0, d1, d2, d3, d4, d5⟩ := dc_cells hd
  have hlt := hd.lt
  clear hd
  go_enter Ybaf.func10, Ybaf.ntmps10
  go_wp2_with fail
  refine (errorfA (some ⟨db, 0, none⟩) line col w.heap.size want (w.alloc (.cells #[.iface 9 (.string want)] 20)) (by simp)).mono ?_
  rintro e w1 ⟨k, t, rfl, hk, hbk, hbl⟩
  simp only [World.size_alloc] at hk hbl
  have HK := hide hbk
  have HB := hide hbl
  clear hbk hbl
  go_wp2_with fail
  go_ret
  exact ⟨_, rfl, k, t, rfl, by omega, unhide HK, ((Below.refl w.heap.size w).alloc (Nat.le_refl _) _).trans ((unhide HB).mono (by omega))⟩

set_option maxHeartbeats 400000 in
theorem ended_in (sb db : Nat) (line col ol oc : Int) (what want : ByteArray) (w : World) (hd : Bk w db (dc sb line col ol oc what) 36) (hw : what.toList.isEmpty = false) :
    Calls Ybaf.prog 10 #[.pointer (some ⟨db, 0, none⟩), .string want] w fun e w' => ∃ v, e = .returned v ∧ NewErr ol oc w v w' := by
  obtain ⟨d0, d1, d2, d3, d4, d5⟩ := dc_cells hd
  have hlt := hd.lt
  clear hd
  go_enter Ybaf.func10, Ybaf.ntmps10
  go_wp2_with fail
  go_region_with (go_at_call 11; refine (errorfB (some ⟨db, 0, none⟩) ol oc w.heap.size what want _ ?_ ?_).mono ?_; (focus (go_simp; done)); (focus (go_simp; done)); rintro e w1 ⟨k, t, rfl, hk, hbk, hbl⟩)
  all_goals
    have hK : w.heap.size ≤ k := by simp at hk; omega
    have HB : Hid (Below w.heap.size w w1) := (((Below.refl w.heap.size w).alloc (Nat.le_refl _) (.cells #[.iface 9 (.string what), .iface 9 (.string want)] 20)).drew).trans (hbl.mono (by simp))
    have HK := hide hbk
    clear hbl hbk hk
    go_wp2
    go_ret
    exact ⟨_, rfl, k, t, rfl, hK, unhide HK, unhide HB⟩

/-- Where the next byte stands, the byte c having been read. -/
def nextL (c line : Int) : Int := if c = 10 then wrap64 (line + 1) else line
def nextC (c col : Int) : Int := if c = 10 then 1 else wrap64 (col + 1)

set_option maxHeartbeats 400000 in
theorem read_ok (sb db xb xo : Nat) (len cap : Nat) (i : Nat) (fa rd ur : Int) (ue : Value) (c line col ol oc : Int) (what : ByteArray) (w : World)
    (hb : Bk w sb (sc (some ⟨xb, xo, none⟩) len cap i .nilIface fa ue rd ur) 27) (hd : Bk w db (dc sb line col ol oc what) 36) (hne : sb ≠ db)
    (hi : i < len) (hi' : len ≤ 1024) (hr : 0 ≤ rd) (hr' : rd ≤ 100000)
    (hx : xb ≠ sb) (hc : w.cell? ⟨xb, xo + i, none⟩ = some (.int .u8 c)) :
    Calls Ybaf.prog 8 #[.pointer (some ⟨db, 0, none⟩)] w fun e w' => e = .returned (.tuple #[.int .u8 c, .nilIface]) ∧
      Bk w' sb (sc (some ⟨xb, xo, none⟩) len cap (i + 1 : Nat) .nilIface fa ue (rd + 1) ur) 27 ∧ Bk w' db (dc sb (nextL c line) (nextC c col) ol oc what) 36 ∧ Fr sb db w w' := by
  obtain ⟨d0, d1, d2, d3, d4, d5⟩ := dc_cells hd
  have H := hide hb
  have HD := hide hd
  clear hb hd
  unfold nextL nextC
  by_cases h10 : c = 10
  · subst h10
    go_enter Ybaf.func8, Ybaf.ntmps8
    go_wp2_with fail
    refine (readByte_ok sb sb xb xo len cap i fa rd ur ue 10 w (unhide H) hi hi' hr hr' hx hc).mono ?_
    rintro e w1 ⟨rfl, hb1, hf1⟩
    have H1 := hide hb1
    have HF1 := hide hf1
    have hd1 := hf1.bk (unhide HD) (fun h => hne h.symm) (fun h => hne h.symm)
    obtain ⟨e0, e1, e2, e3, e4, e5⟩ := dc_cells hd1
    have f1 := hd1.frozen 1
    have f2 := hd1.frozen 2
    have HD1 := hide hd1
    clear hb1 hf1 hd1
    go_wp2_with fail
    go_ret2
    refine ⟨rfl, ((unhide H1).setOther 1 _ (fun h => hne h.symm)).setOther 2 _ (fun h => hne h.symm), ((unhide HD1).set 1 _).set 2 _, (((unhide HF1).wide).setD 1 _).setD 2 _⟩
  · have h10' : (c == 10) = false := by simpa using h10
    rw [if_neg h10, if_neg h10]
    go_enter Ybaf.func8, Ybaf.ntmps8
    go_wp2_with fail
    refine (readByte_ok sb sb xb xo len cap i fa rd ur ue c w (unhide H) hi hi' hr hr' hx hc).mono ?_
    rintro e w1 ⟨rfl, hb1, hf1⟩
    have H1 := hide hb1
    have HF1 := hide hf1
    have hd1 := hf1.bk (unhide HD) (fun h => hne h.symm) (fun h => hne h.symm)
    obtain ⟨e0, e1, e2, e3, e4, e5⟩ := dc_cells hd1
    have f2 := hd1.frozen 2
    have HD1 := hide hd1
    clear hb1 hf1 hd1
    go_wp2_with fail
    go_ret2
    exact ⟨rfl, (unhide H1).setOther 2 _ (fun h => hne h.symm), (unhide HD1).set 2 _, ((unhide HF1).wide).setD 2 _⟩

end Go.Proofs.YbulkdbzuFmt
