/-
  The walk of LawS5168CWalk (3).
-/
import Derived.Test.YbulkdbzuFmtBits
import Derived.WalkSmall
namespace Go.Proofs.YbulkdbzuFmt
open Go.RowKit Go.Extern.Stop Go.Stop Go.Extern
set_option linter.unusedVariables false
attribute [local go_sem] eq_same eq_nil assert39

set_option maxRecDepth 100000 in
theorem walk_long (a : Option Addr) (len cap : Nat) (line col ol oc : Int) (what want : ByteArray) (w : World) (hlen : 1024 < len) :
    Calls Ybaf.prog 3 #[.slice a len cap, .int .i64 line, .int .i64 col, .string what, .int .i64 ol, .int .i64 oc, .string want] w fun e w' => e = .returned (.bool true) ∧ Below w.heap.size w w' := by
  have hl : (1024 : Int) < (len : Int) := by omega
  go_enter Ybaf.func3, Ybaf.ntmps3
  go_wp2_with fail
  go_ret
  exact ⟨rfl, Below.refl _ _⟩

/-- The world when the loop begins: the scanner, the opening, the decoder. -/
def began (w : World) (a : Option Addr) (len cap : Nat) (line col ol oc : Int) (what : ByteArray) : World :=
  ((w.alloc (.cells (sc a len cap 0 .nilIface 0 .nilIface 0 0) 27)).alloc (.cells #[.int .i64 ol, .int .i64 oc, .string what] 31)).alloc (.cells (dc w.heap.size line col ol oc what) 36)

/-- What holds at each round's head. -/
def Rel (w : World) (a : Option Addr) (len cap : Nat) (line col ol oc : Int) (what : ByteArray) (pl pc i : Value) (wr : World) : Prop :=
  ∃ (k : Nat) (L C : Int), k ≤ len ∧ pl = .int .i64 L ∧ pc = .int .i64 C ∧ i = .int .i64 k ∧
    Bk wr w.heap.size (sc a len cap k .nilIface 0 .nilIface (2 * k : Int) k) 27 ∧ Bk wr (w.heap.size + 2) (dc w.heap.size L C ol oc what) 36 ∧ Fr w.heap.size (w.heap.size + 2) (began w a len cap line col ol oc what) wr

theorem rel_start (w : World) (a : Option Addr) (len cap : Nat) (line col ol oc : Int) (what : ByteArray) :
    Rel w a len cap line col ol oc what (.int .i64 line) (.int .i64 col) (.int .i64 0) (began w a len cap line col ol oc what) :=
  ⟨0, line, col, Nat.zero_le _, rfl, rfl, rfl, (three_blocks w _ _ _ 27 31 36).1, (three_blocks w _ _ _ 27 31 36).2.2, Fr.refl _ _ _⟩

theorem rel_drewN {w : World} {a : Option Addr} {len cap : Nat} {line col ol oc : Int} {what : ByteArray} {pl pc i : Value} {wr : World} (h : Rel w a len cap line col ol oc what pl pc i wr) (n : Nat) :
    Rel w a len cap line col ol oc what pl pc i (wr.drewN n) := by
  obtain ⟨k, L, C, hk, h1, h2, h3, hb, hd, hf⟩ := h
  exact ⟨k, L, C, hk, h1, h2, h3, hb, hd, hf.drewN n⟩

theorem rel_op {w wr : World} {a : Option Addr} {len cap : Nat} {line col ol oc : Int} {what : ByteArray} (hf : Fr w.heap.size (w.heap.size + 2) (began w a len cap line col ol oc what) wr) :
    Bk wr (w.heap.size + 1) #[.int .i64 ol, .int .i64 oc, .string what] 31 :=
  hf.bk (three_blocks w _ _ _ 27 31 36).2.1 (by omega) (by omega)

theorem rel_old {w wr : World} {a : Option Addr} {len cap : Nat} {line col ol oc : Int} {what : ByteArray} (hf : Fr w.heap.size (w.heap.size + 2) (began w a len cap line col ol oc what) wr) {p : Addr} {v : Value} (hc : w.cell? p = some v) :
    wr.cell? p = some v := by
  have hl : p.block < w.heap.size := World.block_lt_of_cell? _ _ hc
  exact hf.cell (cell_alloc (cell_alloc (cell_alloc hc _) _) _) (by omega) (by omega)

theorem rel_global {w wr : World} {a : Option Addr} {len cap : Nat} {line col ol oc : Int} {what : ByteArray} {v : Value} (hg : w.cell? ⟨0, 0, none⟩ = some v)
    (hf : Fr w.heap.size (w.heap.size + 2) (began w a len cap line col ol oc what) wr) : wr.cell? ⟨0, 0, none⟩ = some v := rel_old hf hg

theorem rel_data {w wr : World} {a : Option Addr} {len cap : Nat} {zs : List Int} {line col ol oc : Int} {what : ByteArray} {k : Nat} (hrow : IsRow w a len cap zs)
    (hf : Fr w.heap.size (w.heap.size + 2) (began w a len cap line col ol oc what) wr) (hlt : k < len) :
    ∃ xb xo c, a = some ⟨xb, xo, none⟩ ∧ xb < w.heap.size ∧ wr.cell? ⟨xb, xo + k, none⟩ = some (.int .u8 c) := by
  rcases hrow with ⟨rfl, rfl, rfl, rfl⟩ | ⟨x, rfl, hlc, hmx, hz, hcell, hwz⟩
  · omega
  · obtain ⟨xb, xo, spot⟩ := x
    have hs : spot = none := by
      have := World.cell?_spot (hcell 0 (by omega))
      simpa [Addr.add] using this
    subst hs
    have hc := hcell k (by omega)
    rw [add_at] at hc
    exact ⟨xb, xo, _, rfl, World.block_lt_of_cell? _ _ hc, rel_old hf hc⟩

theorem rel_below {w wr : World} {a : Option Addr} {len cap : Nat} {line col ol oc : Int} {what : ByteArray} (hf : Fr w.heap.size (w.heap.size + 2) (began w a len cap line col ol oc what) wr) :
    Below w.heap.size w wr :=
  ((((Below.refl w.heap.size w).alloc (Nat.le_refl _) _).alloc (by simp) _).alloc (by simp; omega) _).trans (hf.below (by simp [began]; omega) (Nat.le_refl _) (by omega))

set_option maxRecDepth 100000 in
set_option maxHeartbeats 1000000 in
theorem walk_go (a : Option Addr) (len cap : Nat) (zs : List Int) (line col ol oc : Int) (what want : ByteArray) (w : World) (hrow : IsRow w a len cap zs) (hlen : len ≤ 1024)
    (eo : Addr) (hg : w.cell? ⟨0, 0, none⟩ = some (.iface 48 (.pointer (some eo)))) :
    Calls Ybaf.prog 3 #[.slice a len cap, .int .i64 line, .int .i64 col, .string what, .int .i64 ol, .int .i64 oc, .string want] w fun e w' => e = .returned (.bool true) ∧ Below w.heap.size w w' := by
  have h0 : 0 < w.heap.size := World.block_lt_of_cell? _ _ hg
  have HR := hide hrow
  clear hrow
  have hl : (len : Int) ≤ 1024 := by omega
  go_enter Ybaf.func3, Ybaf.ntmps3
  go_wp2_with fail
  go_loopw [18, 19, 20] (fun pl pc i wr => Rel w a len cap line col ol oc what pl pc i wr) (fun _ _ i _ => len - (intOf i).toNat)
  case atStart => exact rel_start w a len cap line col ol oc what
  case round =>
    obtain ⟨k, L, C, hk, rfl, rfl, rfl, hb, hd, hf⟩ := hrel
    have hop := rel_op hf
    have hgr := rel_global hg hf
    have HF := hide hf
    clear hf
    by_cases hlt : k < len
    · obtain ⟨xb, xo, c, rfl, hxb, hc⟩ := rel_data (unhide HR) (unhide HF) hlt
      have hltI : (k : Int) < (len : Int) := by omega
      have hc0 := hc
      by_cases h10 : c = 10
      · subst h10
        go_wp2_with fail
        refine (readFor_ok w.heap.size (w.heap.size + 2) xb xo len cap k 0 (2 * k) k eo 10 L C ol oc what want wr hb hd (by omega) hlt hlen (by omega) (by omega) (by omega) (by omega) (by omega) hc (by omega) hgr).mono ?_
        rintro e w1 ⟨rfl, hb1, hd1, hf1⟩
        rw [show nextL 10 L = wrap64 (L + 1) from by simp [nextL], show nextC 10 C = 1 from by simp [nextC]] at hd1
        rw [show ((k + 1 : Nat) : Int) = (k : Int) + 1 from by omega] at hb1
        have HS : Hid (Rel w (some ⟨xb, xo, none⟩) len cap line col ol oc what (.int .i64 (wrap64 (L + 1))) (.int .i64 (1)) (.int .i64 ((k : Int) + 1)) w1) :=
          ⟨k + 1, _, _, by omega, rfl, rfl, by go_num, by rw [show ((k + 1 : Nat) : Int) = (k : Int) + 1 from by omega, show (2 * ((k : Int) + 1)) = 2 * k + 2 from by omega]; exact hb1, hd1, (unhide HF).trans hf1⟩
        obtain ⟨c0, c1, c2, c3, c4, c5, c6⟩ := sc_cells hb1
        obtain ⟨d0, d1, d2, d3, d4, d5⟩ := dc_cells (show Bk w1 (w.heap.size + 1 + 1) (dc w.heap.size (wrap64 (L + 1)) (1) ol oc what) 36 from hd1)
        have hop1 := hf1.bk hop (by omega) (by omega)
        have o0 : w1.cell? ⟨w.heap.size + 1, 0, none⟩ = some (.int .i64 ol) := hop1.cell 0
        have o1 : w1.cell? ⟨w.heap.size + 1, 1, none⟩ = some (.int .i64 oc) := hop1.cell 1
        have o2 : w1.cell? ⟨w.heap.size + 1, 2, none⟩ = some (.string what) := hop1.cell 2
        have x1 := hf1.cell hc (show xb ≠ _ by omega) (show xb ≠ _ by omega)
        clear hb1 hd1 hf1 hop1 hb hd hop
        go_wp2_with fail
        go_quiet (fail)
        go_wp2_with fail
        go_roundw
        case rel => exact rel_drewN (unhide HS) _
        case measure => simp [intOf]; omega
      · have h10' : (c == 10) = false := by simpa using h10
        go_wp2_with fail
        refine (readFor_ok w.heap.size (w.heap.size + 2) xb xo len cap k 0 (2 * k) k eo c L C ol oc what want wr hb hd (by omega) hlt hlen (by omega) (by omega) (by omega) (by omega) (by omega) hc (by omega) hgr).mono ?_
        rintro e w1 ⟨rfl, hb1, hd1, hf1⟩
        rw [show nextL c L = L from by simp [nextL, h10], show nextC c C = wrap64 (C + 1) from by simp [nextC, h10]] at hd1
        rw [show ((k + 1 : Nat) : Int) = (k : Int) + 1 from by omega] at hb1
        have HS : Hid (Rel w (some ⟨xb, xo, none⟩) len cap line col ol oc what (.int .i64 (L)) (.int .i64 (wrap64 (C + 1))) (.int .i64 ((k : Int) + 1)) w1) :=
          ⟨k + 1, _, _, by omega, rfl, rfl, by go_num, by rw [show ((k + 1 : Nat) : Int) = (k : Int) + 1 from by omega, show (2 * ((k : Int) + 1)) = 2 * k + 2 from by omega]; exact hb1, hd1, (unhide HF).trans hf1⟩
        obtain ⟨c0, c1, c2, c3, c4, c5, c6⟩ := sc_cells hb1
        obtain ⟨d0, d1, d2, d3, d4, d5⟩ := dc_cells (show Bk w1 (w.heap.size + 1 + 1) (dc w.heap.size (L) (wrap64 (C + 1)) ol oc what) 36 from hd1)
        have hop1 := hf1.bk hop (by omega) (by omega)
        have o0 : w1.cell? ⟨w.heap.size + 1, 0, none⟩ = some (.int .i64 ol) := hop1.cell 0
        have o1 : w1.cell? ⟨w.heap.size + 1, 1, none⟩ = some (.int .i64 oc) := hop1.cell 1
        have o2 : w1.cell? ⟨w.heap.size + 1, 2, none⟩ = some (.string what) := hop1.cell 2
        have x1 := hf1.cell hc (show xb ≠ _ by omega) (show xb ≠ _ by omega)
        clear hb1 hd1 hf1 hop1 hb hd hop
        go_wp2_with fail
        go_quiet (fail)
        go_wp2_with fail
        go_roundw
        case rel => exact rel_drewN (unhide HS) _
        case measure => simp [intOf]; omega
    · have hkl : k = len := by omega
      subst hkl
      by_cases hw : what.toList.isEmpty = true
      · go_wp2_with fail
        refine (readFor_eof w.heap.size (w.heap.size + 2) a k cap k 0 (2 * k) k .nilIface eo L C ol oc L C what want wr hb hd (by omega) (Nat.le_refl _) hlen (by omega) (by omega) (by omega) hgr (.inl ⟨hw, rfl, rfl⟩)).mono ?_
        rintro e w1 ⟨kb, tt, rfl, hkb, hbk, hb1, hf1⟩
        have HB : Hid (Below w.heap.size w w1) := (rel_below (unhide HF)).trans (hf1.below (by have := (rel_below (unhide HF)).size; omega) (Nat.le_refl _) (Nat.le_refl _))
        obtain ⟨c0, c1, c2, c3, c4, c5, c6⟩ := sc_cells hb1
        obtain ⟨d0, d1, d2, d3, d4, d5⟩ := dc_cells (show Bk w1 (w.heap.size + 1 + 1) (dc w.heap.size L C ol oc what) 36 from hf1.bk hd (by omega) (by omega))
        have hop1 := hf1.bk hop (by omega) (by omega)
        have o0 : w1.cell? ⟨w.heap.size + 1, 0, none⟩ = some (.int .i64 ol) := hop1.cell 0
        have o1 : w1.cell? ⟨w.heap.size + 1, 1, none⟩ = some (.int .i64 oc) := hop1.cell 1
        have o2 : w1.cell? ⟨w.heap.size + 1, 2, none⟩ = some (.string what) := hop1.cell 2
        have k0 : w1.cell? ⟨kb, 0, none⟩ = some (.int .i64 L) := hbk.cell 0
        have k1 : w1.cell? ⟨kb, 1, none⟩ = some (.int .i64 C) := hbk.cell 1
        clear hb1 hf1 hop1 hb hd hop hbk hkb
        go_wp2_with fail
        go_quiet (fail)
        go_wp2_with fail
        go_ret
        exact ⟨rfl, below_drewN (unhide HB) _⟩
      · have hw' : what.toList.isEmpty = false := by simpa using hw
        clear hw
        go_wp2_with fail
        refine (readFor_eof w.heap.size (w.heap.size + 2) a k cap k 0 (2 * k) k .nilIface eo L C ol oc ol oc what want wr hb hd (by omega) (Nat.le_refl _) hlen (by omega) (by omega) (by omega) hgr (.inr ⟨hw', rfl, rfl⟩)).mono ?_
        rintro e w1 ⟨kb, tt, rfl, hkb, hbk, hb1, hf1⟩
        have HB : Hid (Below w.heap.size w w1) := (rel_below (unhide HF)).trans (hf1.below (by have := (rel_below (unhide HF)).size; omega) (Nat.le_refl _) (Nat.le_refl _))
        obtain ⟨c0, c1, c2, c3, c4, c5, c6⟩ := sc_cells hb1
        obtain ⟨d0, d1, d2, d3, d4, d5⟩ := dc_cells (show Bk w1 (w.heap.size + 1 + 1) (dc w.heap.size L C ol oc what) 36 from hf1.bk hd (by omega) (by omega))
        have hop1 := hf1.bk hop (by omega) (by omega)
        have o0 : w1.cell? ⟨w.heap.size + 1, 0, none⟩ = some (.int .i64 ol) := hop1.cell 0
        have o1 : w1.cell? ⟨w.heap.size + 1, 1, none⟩ = some (.int .i64 oc) := hop1.cell 1
        have o2 : w1.cell? ⟨w.heap.size + 1, 2, none⟩ = some (.string what) := hop1.cell 2
        have k0 : w1.cell? ⟨kb, 0, none⟩ = some (.int .i64 ol) := hbk.cell 0
        have k1 : w1.cell? ⟨kb, 1, none⟩ = some (.int .i64 oc) := hbk.cell 1
        clear hb1 hf1 hop1 hb hd hop hbk hkb
        go_wp2_with fail
        go_quiet (fail)
        go_wp2_with fail
        go_ret
        exact ⟨rfl, below_drewN (unhide HB) _⟩

end Go.Proofs.YbulkdbzuFmt
