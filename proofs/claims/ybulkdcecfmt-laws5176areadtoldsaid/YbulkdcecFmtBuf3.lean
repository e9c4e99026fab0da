/-
  (*bufio.Reader).Read (10) by its contracts, further: p is long (read straight into it); the end of the data.
-/
import Derived.Test.YbulkdcecFmtBuf2
namespace Go.Proofs.YbulkdcecFmt
open Go.RowKit Go.Extern.Stop Go.Stop Go.Extern
set_option linter.unusedVariables false
set_option linter.unusedSimpArgs false
attribute [local go_sem] m_bread

set_option maxHeartbeats 1000000 in
/-- The buffer is empty, p is long, there are data: p is filled straight. -/
theorem bufRead_B (rb bb ub pb b o len cap i r m c : Nat) (T : TypeId) (pr lb lr : Int) (z : Nat → Int) (ps : List Value) (w : World)
    (hr : Bk w rb (rdr (some ⟨b, o, none⟩) len cap i pr) 53) (hi : i < len) (hlc : len ≤ cap) (hlen : len ≤ 1024)
    (hb : Bk w bb (bfr ub rb r r .nilIface lb lr) 50)
    (hz : ∀ j, j < len → w.cell? ⟨b, o + j, none⟩ = some (.int .u8 (z j))) (hp : Bk w pb ps.toArray T) (hm : m ≤ ps.length) (hm2 : 16 ≤ m) (hm3 : m ≤ 1000)
    (n1 : pb ≠ bb) (n4 : rb ≠ bb) (n6 : rb ≠ pb) (n7 : b ≠ rb) (n8 : b ≠ bb) (n10 : b ≠ pb) :
    Calls Ybaf.prog 10 #[.pointer (some ⟨bb, 0, none⟩), .slice (some ⟨pb, 0, none⟩) m c] w fun e w' => ∃ n lb', n = min m (len - i) ∧ e = .returned (.tuple #[.int .i64 n, .nilIface]) ∧
      Bk w' rb (rdr (some ⟨b, o, none⟩) len cap (i + n) (-1)) 53 ∧ Bk w' bb (bfr ub rb r r .nilIface lb' (-1)) 50 ∧ Bk w' pb (splice ps 0 (bts z i n)).toArray T ∧ Fr [rb, bb, pb] w w' := by
  obtain ⟨c0, c1, c2, c3, c4, c5, c6⟩ := bfr_cells hb
  have HR := hide hr
  have HB := hide hb
  have HP := hide hp
  have HZ := hide hz
  clear hb hp hz hr
  have hm0 : ((m : Int) == 0) = false := by simp; omega
  have hm16 : (16 : Int) ≤ (m : Int) := by omega
  go_enter Ybaf.func10, Ybaf.ntmps10
  go_wp2_with fail
  go_quiet (fail)
  go_wp2_with fail
  refine (bread_ok rb pb b o len cap i m c T pr z ps _ (by exact unhide HR) hi hlc hlen (by exact unhide HP) hm (by omega) (by exact unhide HZ) (fun h => n6 h.symm) n7 n10).mono ?_
  rintro e w2 ⟨n, hn, rfl, hr2, hp2, hf2⟩
  have hb2 : Bk w2 bb (bfr ub rb r r .nilIface lb lr) 50 := hf2.bk (show Bk (w.drewN nq) bb _ 50 from unhide HB) (by simp; exact ⟨fun h => n4 h.symm, fun h => n1 h.symm⟩)
  have hF2 : Fr [rb, bb, pb] w w2 := ((Fr.refl _ w).drewN nq).trans (hf2.wide (by simp))
  have hn1 : 1 ≤ n := by omega
  have hnm : n ≤ m := by omega
  obtain ⟨k, hk⟩ : ∃ k, k = n - 1 := ⟨_, rfl⟩
  have hlast : w2.cell? ⟨pb, k, none⟩ = some (.int .u8 (z (i + k))) := by
    rw [hp2.cell]
    have : (splice ps 0 (bts z i n))[k]? = some (.int .u8 (z (i + k))) := by
      simp only [splice, List.take_zero, List.nil_append]
      rw [List.getElem?_append_left (by rw [bts_length]; omega)]
      exact bts_get z i n k (by omega)
    simpa using this
  obtain ⟨k0, k1, k2, k3, k4, k5, k6⟩ := bfr_cells hb2
  have q4 := hb2.frozen 4
  have q5 := hb2.frozen 5
  have q6 := hb2.frozen 6
  have hkI : (n : Int) - 1 = (k : Int) := by omega
  have hkm : (k : Int) < (m : Int) := by omega
  have hnp : (0 : Int) < (n : Int) := by omega
  have HN := hide hn
  have HK := hide hk
  have HB2 := hide hb2
  have HR2 := hide hr2
  have HP2 := hide hp2
  have HF2 := hide hF2
  clear hn hk hb2 hr2 hp2 hf2 hF2 c0 c1 c2 c3 c4 c5 c6 HB HR HP HZ
  go_wp2_with fail
  refine (readErr_any bb ub rb r r .nilIface 0 .nilIface (wrap64 (z (i + k))) (-1) _ (.inl rfl) (by exact (((unhide HB2).set 4 _).set 5 _).set 6 _)).mono ?_
  rintro e w3 ⟨rfl, hb3, hf3⟩
  have HB3 := hide hb3
  have HF3 : Hid (Fr [rb, bb, pb] w w3) := ((((unhide HF2).set (by simp) 4 _).set (by simp) 5 _).set (by simp) 6 _).trans (hf3.wide (by simp))
  have HR3 : Hid (Bk w3 rb (rdr (some ⟨b, o, none⟩) len cap (i + n) (-1)) 53) := hf3.bk ((((unhide HR2).setOther 4 _ (fun h => n4 h.symm)).setOther 5 _ (fun h => n4 h.symm)).setOther 6 _ (fun h => n4 h.symm)) (by simp; exact n4)
  have HP3 : Hid (Bk w3 pb (splice ps 0 (bts z i n)).toArray T) := hf3.bk ((((unhide HP2).setOther 4 _ (fun h => n1 h.symm)).setOther 5 _ (fun h => n1 h.symm)).setOther 6 _ (fun h => n1 h.symm)) (by simp; exact n1)
  clear hb3 hf3 HB2 HR2 HP2 HF2 k0 k1 k2 k3 k4 k5 k6 q4 q5 q6 hlast
  go_wp2_with fail
  go_ret2
  exact ⟨n, wrap64 (z (i + k)), unhide HN, rfl, unhide HR3, unhide HB3, unhide HP3, unhide HF3⟩

set_option maxHeartbeats 1000000 in
/-- The end of the data, p long. -/
theorem bufRead_eofB (rb bb ub r len cap m c : Nat) (p a : Option Addr) (pr lb lr : Int) (eo : Addr) (w : World)
    (hr : Bk w rb (rdr a len cap len pr) 53) (hlen : len ≤ 1024) (hb : Bk w bb (bfr ub rb r r .nilIface lb lr) 50)
    (hm2 : 16 ≤ m) (hm3 : m ≤ 1000) (n4 : rb ≠ bb) (h0 : 0 ≠ bb) (hg : w.cell? ⟨0, 0, none⟩ = some (.iface 65 (.pointer (some eo)))) :
    Calls Ybaf.prog 10 #[.pointer (some ⟨bb, 0, none⟩), .slice p m c] w fun e w' => e = .returned (.tuple #[.int .i64 0, .iface 65 (.pointer (some eo))]) ∧
      Bk w' bb (bfr ub rb r r .nilIface lb lr) 50 ∧ Fr [bb] w w' := by
  obtain ⟨c0, c1, c2, c3, c4, c5, c6⟩ := bfr_cells hb
  have HR := hide hr
  have HB := hide hb
  clear hb hr
  have hm0 : ((m : Int) == 0) = false := by simp; omega
  have hm16 : (16 : Int) ≤ (m : Int) := by omega
  go_enter Ybaf.func10, Ybaf.ntmps10
  go_wp2_with fail
  go_quiet (fail)
  go_wp2_with fail
  refine (bread_eof rb a len cap pr (.slice p m c) eo _ (by exact unhide HR) hlen (by exact hg)).mono ?_
  rintro e w2 ⟨rfl, hf2⟩
  have hb2 : Bk w2 bb (bfr ub rb r r .nilIface lb lr) 50 := hf2.bk (show Bk (w.drewN nq) bb _ 50 from unhide HB) (by simp)
  have hF2 : Fr [bb] w w2 := ((Fr.refl _ w).drewN nq).trans (hf2.wide (by simp))
  obtain ⟨k0, k1, k2, k3, k4, k5, k6⟩ := bfr_cells hb2
  have q4 := hb2.frozen 4
  have HB2 := hide hb2
  have HF2 := hide hF2
  clear hb2 hf2 hF2 c0 c1 c2 c3 c4 c5 c6 HB HR
  go_wp2_with fail
  refine (readErr_any bb ub rb r r (.iface 65 (.pointer (some eo))) 65 (.pointer (some eo)) lb lr _ (.inr rfl) (by exact (unhide HB2).set 4 _)).mono ?_
  rintro e w3 ⟨rfl, hb3, hf3⟩
  have HB3 := hide hb3
  have HF3 : Hid (Fr [bb] w w3) := ((unhide HF2).set (by simp) 4 _).trans hf3
  clear hb3 hf3 HB2 HF2 k0 k1 k2 k3 k4 k5 k6 q4
  go_wp2_with fail
  go_ret2
  exact ⟨rfl, unhide HB3, unhide HF3⟩

set_option maxHeartbeats 1000000 in
/-- The end of the data, p short. -/
theorem bufRead_eofC (rb bb ub r len cap m c : Nat) (p a : Option Addr) (pr lb lr : Int) (eo : Addr) (w : World)
    (hr : Bk w rb (rdr a len cap len pr) 53) (hlen : len ≤ 1024) (hb : Bk w bb (bfr ub rb r r .nilIface lb lr) 50)
    (hm1 : 1 ≤ m) (hm2 : m < 16) (n4 : rb ≠ bb) (h0 : 0 ≠ bb) (hg : w.cell? ⟨0, 0, none⟩ = some (.iface 65 (.pointer (some eo)))) :
    Calls Ybaf.prog 10 #[.pointer (some ⟨bb, 0, none⟩), .slice p m c] w fun e w' => e = .returned (.tuple #[.int .i64 0, .iface 65 (.pointer (some eo))]) ∧
      Bk w' bb (bfr ub rb 0 0 .nilIface lb lr) 50 ∧ Fr [bb] w w' := by
  obtain ⟨c0, c1, c2, c3, c4, c5, c6⟩ := bfr_cells hb
  have f2 := hb.frozen 2
  have f3 := hb.frozen 3
  have HR := hide hr
  have HB := hide hb
  clear hb hr
  have hm0 : ((m : Int) == 0) = false := by simp; omega
  have hm16 : ¬ (16 : Int) ≤ (m : Int) := by omega
  go_enter Ybaf.func10, Ybaf.ntmps10
  go_wp2_with fail
  go_quiet (fail)
  go_wp2_with fail
  have hb1 : Bk (((w.drewN nq).setCell ⟨bb, 2, none⟩ (.int .i64 0)).setCell ⟨bb, 3, none⟩ (.int .i64 0)) bb (bfr ub rb 0 0 .nilIface lb lr) 50 := ((unhide HB).set 2 _).set 3 _
  have hr1 : Bk (((w.drewN nq).setCell ⟨bb, 2, none⟩ (.int .i64 0)).setCell ⟨bb, 3, none⟩ (.int .i64 0)) rb (rdr a len cap len pr) 53 := ((unhide HR).setOther 2 _ (fun h => n4 h.symm)).setOther 3 _ (fun h => n4 h.symm)
  have hf1 : Fr [bb] w (((w.drewN nq).setCell ⟨bb, 2, none⟩ (.int .i64 0)).setCell ⟨bb, 3, none⟩ (.int .i64 0)) := (((Fr.refl _ _).drewN nq).set (by simp) 2 _).set (by simp) 3 _
  have hg1 := hf1.cell hg (by simp; exact h0)
  generalize ((w.drewN nq).setCell ⟨bb, 2, none⟩ (.int .i64 0)).setCell ⟨bb, 3, none⟩ (.int .i64 0) = W1 at hb1 hr1 hf1 hg1 ⊢
  clear c0 c1 c2 c3 c4 c5 c6 f2 f3 HB HR hg
  obtain ⟨c0, c1, c2, c3, c4, c5, c6⟩ := bfr_cells hb1
  have HB := hide hb1
  have HR := hide hr1
  have HF := hide hf1
  clear hb1 hr1 hf1
  go_region_held3 (fun w' => w'.cell? ⟨bb, 0, none⟩ = some (.slice (some ⟨ub, 0, none⟩) 16 16) ∧ w'.cell? ⟨bb, 1, none⟩ = some (.iface 32 (.pointer (some ⟨rb, 0, none⟩))))
    (simp [*, World.cell?_alloc_some, World.cell?_setCell_far, cell_set_off])
    ((go_at_call 45
      refine (bread_eof rb a len cap pr (.slice (some ⟨ub, 0, none⟩) 16 16) eo _ (by exact unhide HR) hlen (by exact hg1)).mono ?_
      rintro e w2 ⟨rfl, hf2⟩
      have hb2 : Bk w2 bb (bfr ub rb 0 0 .nilIface lb lr) 50 := hf2.bk (show Bk W1.drew bb _ 50 from unhide HB) (by simp)
      obtain ⟨k0, k1, k2, k3, k4, k5, k6⟩ := bfr_cells hb2
      have k7 := hb2.frozen 4))
  have HB2 := hide hb2
  have HF2 : Hid (Fr [bb] w w2) := (unhide HF).trans (((Fr.refl _ W1).of_heap (w'' := W1.drew) rfl rfl rfl rfl).trans (hf2.wide (by simp)))
  clear hb2 hf2 c0 c1 c2 c3 c4 c5 c6 HB HR HF
  go_wp2_with fail
  refine (readErr_any bb ub rb 0 0 (.iface 65 (.pointer (some eo))) 65 (.pointer (some eo)) lb lr _ (.inr rfl) (by exact (unhide HB2).set 4 _)).mono ?_
  rintro e w3 ⟨rfl, hb3, hf3⟩
  have HB3 := hide hb3
  have HF3 : Hid (Fr [bb] w w3) := ((unhide HF2).set (by simp) 4 _).trans hf3
  clear hb3 hf3 HB2 HF2 k0 k1 k2 k3 k4 k5 k6 k7
  go_wp2_with fail
  go_ret2
  exact ⟨rfl, unhide HB3, unhide HF3⟩

theorem splice_get (ps : List Value) (z : Nat → Int) (i n j : Nat) (h : j < n) : (splice ps 0 (bts z i n))[j]? = some (.int .u8 (z (i + j))) := by
  simp only [splice, List.take_zero, List.nil_append]
  rw [List.getElem?_append_left (by rw [bts_length]; exact h)]
  exact bts_get z i n j h

/-- THE CONTRACT: there are data at place pos: at least one byte comes. -/
theorem bufRead_ok (rb bb ub pb b o len cap pos m c : Nat) (T : TypeId) (z : Nat → Int) (ps : List Value) (w : World)
    (h : RD w rb bb ub (some ⟨b, o, none⟩) len cap z pos) (hpos : pos < len) (hlc : len ≤ cap) (hlen : len ≤ 1024)
    (hz : ∀ j, j < len → w.cell? ⟨b, o + j, none⟩ = some (.int .u8 (z j))) (hp : Bk w pb ps.toArray T) (hm : m ≤ ps.length) (hm1 : 1 ≤ m) (hm3 : m ≤ 1000)
    (n1 : pb ≠ bb) (n2 : pb ≠ ub) (n3 : bb ≠ ub) (n4 : rb ≠ bb) (n5 : rb ≠ ub) (n6 : rb ≠ pb) (n7 : b ≠ rb) (n8 : b ≠ bb) (n9 : b ≠ ub) (n10 : b ≠ pb) :
    Calls Ybaf.prog 10 #[.pointer (some ⟨bb, 0, none⟩), .slice (some ⟨pb, 0, none⟩) m c] w fun e w' => ∃ n, 1 ≤ n ∧ n ≤ m ∧ pos + n ≤ len ∧ e = .returned (.tuple #[.int .i64 n, .nilIface]) ∧
      RD w' rb bb ub (some ⟨b, o, none⟩) len cap z (pos + n) ∧ Bk w' pb (splice ps 0 (bts z pos n)).toArray T ∧ Fr [rb, bb, ub, pb] w w' := by
  obtain ⟨i, r, wr, pr, lb, lr, cs, g1, g2, g3, hcs, hrw, hw16, hil, hpi, hbuf⟩ := h
  by_cases hlt : r < wr
  · refine (bufRead_A rb bb ub pb r wr m c T lb lr z pos cs ps w g2 g3 hcs hlt hw16 hbuf hp hm hm1 hm3 n1 n2 n3).mono ?_
    rintro e w' ⟨n, lb', hn, rfl, k2, k4, kf⟩
    refine ⟨n, by omega, by omega, by omega, rfl, ⟨i, r + n, wr, pr, lb', -1, cs, kf.bk g1 (by simp; exact ⟨n4, n6⟩), k2, kf.bk g3 (by simp; exact ⟨fun h => n3 h.symm, fun h => n2 h.symm⟩), hcs, by omega, hw16, hil, by omega, ?_⟩, k4, kf.wide (by simp)⟩
    intro j hj
    have := hbuf (n + j) (by omega)
    rw [show r + n + j = r + (n + j) from by omega, show pos + n + j = pos + (n + j) from by omega]
    exact this
  · obtain rfl : r = wr := by omega
    obtain rfl : pos = i := by omega
    by_cases h16 : 16 ≤ m
    · refine (bufRead_B rb bb ub pb b o len cap pos r m c T pr lb lr z ps w g1 hpos hlc hlen g2 hz hp hm h16 hm3 n1 n4 n6 n7 n8 n10).mono ?_
      rintro e w' ⟨n, lb', hn, rfl, k1, k2, k4, kf⟩
      refine ⟨n, by omega, by omega, by omega, rfl, ⟨pos + n, r, r, -1, lb', -1, cs, k1, k2, kf.bk g3 (by simp; exact ⟨fun h => n5 h.symm, fun h => n3 h.symm, fun h => n2 h.symm⟩), hcs, Nat.le_refl _, hw16, by omega, by omega, fun j hj => by omega⟩, k4, kf.wide (by simp)⟩
    · refine (bufRead_C rb bb ub pb b o len cap pos r m c T pr lb lr z cs ps w g1 hpos hlc hlen g2 g3 hcs hz hp hm hm1 (by omega) n1 n2 n3 n4 n5 n6 n7 n8 n9 n10).mono ?_
      rintro e w' ⟨f, n, lb', cs', hf, hn, rfl, k1, k2, hcs', k3, k4, kf⟩
      refine ⟨n, by omega, by omega, by omega, rfl, ⟨pos + f, n, f, -1, lb', -1, cs', k1, k2, k3, ?_, by omega, by omega, by omega, by omega, ?_⟩, k4, kf⟩
      · rw [hcs', length_splice _ _ _ (by rw [bts_length]; omega)]; exact hcs
      · intro j hj
        rw [hcs', splice_get cs z pos f (n + j) (by omega), Nat.add_assoc]

/-- THE CONTRACT AT THE END. -/
theorem bufRead_end (rb bb ub len cap m c : Nat) (p a : Option Addr) (z : Nat → Int) (eo : Addr) (w : World)
    (h : RD w rb bb ub a len cap z len) (hlen : len ≤ 1024) (hm1 : 1 ≤ m) (hm3 : m ≤ 1000) (n3 : bb ≠ ub) (n4 : rb ≠ bb) (h0 : 0 ≠ bb) (hg : w.cell? ⟨0, 0, none⟩ = some (.iface 65 (.pointer (some eo)))) :
    Calls Ybaf.prog 10 #[.pointer (some ⟨bb, 0, none⟩), .slice p m c] w fun e w' => e = .returned (.tuple #[.int .i64 0, .iface 65 (.pointer (some eo))]) ∧
      RD w' rb bb ub a len cap z len ∧ Fr [rb, bb, ub] w w' := by
  obtain ⟨i, r, wr, pr, lb, lr, cs, g1, g2, g3, hcs, hrw, hw16, hil, hpi, hbuf⟩ := h
  obtain rfl : r = wr := by omega
  obtain rfl : i = len := by omega
  by_cases h16 : 16 ≤ m
  · refine (bufRead_eofB rb bb ub r i cap m c p a pr lb lr eo w g1 hlen g2 h16 hm3 n4 h0 hg).mono ?_
    rintro e w' ⟨rfl, k2, kf⟩
    exact ⟨rfl, ⟨i, r, r, pr, lb, lr, cs, kf.bk g1 (by simp; exact n4), k2, kf.bk g3 (by simp; exact fun h => n3 h.symm), hcs, Nat.le_refl _, hw16, Nat.le_refl _, by omega, fun j hj => by omega⟩, kf.wide (by simp)⟩
  · refine (bufRead_eofC rb bb ub r i cap m c p a pr lb lr eo w g1 hlen g2 hm1 (by omega) n4 h0 hg).mono ?_
    rintro e w' ⟨rfl, k2, kf⟩
    exact ⟨rfl, ⟨i, 0, 0, pr, lb, lr, cs, kf.bk g1 (by simp; exact n4), k2, kf.bk g3 (by simp; exact fun h => n3 h.symm), hcs, Nat.le_refl _, by omega, Nat.le_refl _, by omega, fun j hj => by omega⟩, kf.wide (by simp)⟩

end Go.Proofs.YbulkdcecFmt
