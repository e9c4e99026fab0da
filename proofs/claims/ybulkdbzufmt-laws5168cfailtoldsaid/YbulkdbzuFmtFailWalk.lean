/-
  The walk of LawS5168CFail (4).
-/
import Derived.Test.YbulkdbzuFmtBits
namespace Go.Proofs.YbulkdbzuFmt
open Go.RowKit Go.Extern.Stop Go.Stop Go.Extern
set_option linter.unusedVariables false

attribute [local go_sem] eq_same eq_nil assert39

set_option maxRecDepth 100000 in
set_option maxHeartbeats 1000000 in
theorem fail_read (a : Option Addr) (len cap : Nat) (at_ line col : Int) (k : Nat) (want : ByteArray) (w : World) (hlen : len ≤ 1024) (h1 : 0 ≤ at_) (h2 : at_ ≤ 65535)
    (hk : at_ % ((len : Int) + 1) = k) (hkl : k ≤ len) (eo : Addr) (ce : Array Value) (te : TypeId) (hg : w.cell? ⟨0, 0, none⟩ = some (.iface 48 (.pointer (some eo)))) (heo : Bk w eo.block ce te) :
    Calls Ybaf.prog 4 #[.slice a len cap, .int .u16 at_, .bool false, .int .i64 line, .int .i64 col, .string want] w fun e w' => e = .returned (.bool true) ∧ Below w.heap.size w w' := by
  have h0 : 0 < w.heap.size := World.block_lt_of_cell? _ _ hg
  have hel := heo.lt
  have HE := hide heo
  clear heo
  go_enter Ybaf.func4, Ybaf.ntmps4
  go_wp2_with fail
  refine (new_any _ _).mono ?_
  rintro e w1 ⟨rfl, rfl⟩
  go_wp2_with fail
  refine (new_any _ _).mono ?_
  rintro e w2 ⟨rfl, rfl⟩
  go_wp2_with fail
  refine (readFor_fail (w.heap.size + 2) (w.heap.size + 3) a len cap k 0 0 .nilIface eo ⟨w.heap.size, 0, none⟩ ce #[.string { data := #[114, 101, 97, 100, 32, 102, 97, 105, 108, 115] }] te 50 line col 0 0 ⟨#[]⟩ want _ ?_ ?_ (by omega) (by omega) (by omega) ?_ ?_ ?_ (by show w.heap.size ≠ w.heap.size + 2; omega) (by omega) (by show w.heap.size ≠ eo.block; omega)).mono ?_
  · exact (four_blocks w _ _ _ _ 50 50 27 36).2.2.1
  · exact (four_blocks w _ _ _ _ 50 50 27 36).2.2.2
  · exact cell_alloc (cell_alloc (cell_alloc (cell_alloc hg _) _) _) _
  · exact (four_blocks w _ _ _ _ 50 50 27 36).1
  · exact ((((unhide HE).alloc _).alloc _).alloc _).alloc _
  rintro e w3 ⟨rfl, hb3, hf3⟩
  obtain ⟨c0, c1, c2, c3, c4, c5, c6⟩ := sc_cells (show Bk w3 (w.heap.size + 1 + 1) _ 27 from hb3)
  obtain ⟨d0, d1, d2, d3, d4, d5⟩ := dc_cells (show Bk w3 (w.heap.size + 1 + 1 + 1) (dc (w.heap.size + 2) line col 0 0 ⟨#[]⟩) 36 from hf3.bk (four_blocks w _ _ _ _ 50 50 27 36).2.2.2 (by omega) (by omega))
  have HF : Hid (Below w.heap.size w w3) := ((((((Below.refl w.heap.size w).alloc (Nat.le_refl _) _).alloc (by simp) _).alloc (by simp; omega) _).alloc (by simp; omega) _)).trans (hf3.below (by simp; omega) (by omega) (by omega))
  clear hb3 hf3
  go_wp2_with fail
  go_ret
  exact ⟨rfl, unhide HF⟩

set_option maxRecDepth 100000 in
set_option maxHeartbeats 1000000 in
theorem fail_end (a : Option Addr) (len cap : Nat) (at_ line col : Int) (want : ByteArray) (w : World) (hlen : len ≤ 1024) (h1 : 0 ≤ at_) (h2 : at_ ≤ 65535)
    (hk : at_ % ((len : Int) + 1) = len) (eo : Addr) (ce : Array Value) (te : TypeId) (hg : w.cell? ⟨0, 0, none⟩ = some (.iface 48 (.pointer (some eo)))) (heo : Bk w eo.block ce te) :
    Calls Ybaf.prog 4 #[.slice a len cap, .int .u16 at_, .bool true, .int .i64 line, .int .i64 col, .string want] w fun e w' => e = .returned (.bool true) ∧ Below w.heap.size w w' := by
  have h0 : 0 < w.heap.size := World.block_lt_of_cell? _ _ hg
  have hel := heo.lt
  have HE := hide heo
  clear heo
  go_enter Ybaf.func4, Ybaf.ntmps4
  go_wp2_with fail
  refine (new_any _ _).mono ?_
  rintro e w1 ⟨rfl, rfl⟩
  go_wp2_with fail
  refine (new_any _ _).mono ?_
  rintro e w2 ⟨rfl, rfl⟩
  go_wp2_with fail
  refine (readFor_eof (w.heap.size + 2) (w.heap.size + 3) a len cap len 0 0 0 (.iface 48 (.pointer (some ⟨w.heap.size + 1, 0, none⟩))) eo line col 0 0 line col ⟨#[]⟩ want _ ?_ ?_ (by omega) (by omega) (by omega) (by omega) (by omega) (by omega) ?_ (.inl ⟨empty_isEmpty, rfl, rfl⟩)).mono ?_
  · exact (four_blocks w _ _ _ _ 50 50 27 36).2.2.1
  · exact (four_blocks w _ _ _ _ 50 50 27 36).2.2.2
  · exact cell_alloc (cell_alloc (cell_alloc (cell_alloc hg _) _) _) _
  rintro e w3 ⟨kb, tt, rfl, hkb, hbk, hb3, hf3⟩
  obtain ⟨c0, c1, c2, c3, c4, c5, c6⟩ := sc_cells (show Bk w3 (w.heap.size + 1 + 1) _ 27 from hb3)
  obtain ⟨d0, d1, d2, d3, d4, d5⟩ := dc_cells (show Bk w3 (w.heap.size + 1 + 1 + 1) (dc (w.heap.size + 2) line col 0 0 ⟨#[]⟩) 36 from hf3.bk (four_blocks w _ _ _ _ 50 50 27 36).2.2.2 (by omega) (by omega))
  have k0 : w3.cell? ⟨kb, 0, none⟩ = some (.int .i64 line) := hbk.cell 0
  have k1 : w3.cell? ⟨kb, 1, none⟩ = some (.int .i64 col) := hbk.cell 1
  have HF : Hid (Below w.heap.size w w3) := ((((((Below.refl w.heap.size w).alloc (Nat.le_refl _) _).alloc (by simp) _).alloc (by simp; omega) _).alloc (by simp; omega) _)).trans (hf3.below (by simp; omega) (by omega) (by omega))
  clear hb3 hf3 hbk hkb
  go_wp2_with fail
  go_ret
  exact ⟨rfl, unhide HF⟩

set_option maxRecDepth 100000 in
set_option maxHeartbeats 1000000 in
theorem fail_unread (xb xo len cap : Nat) (at_ line col c : Int) (k : Nat) (want : ByteArray) (w : World) (hlen : len ≤ 1024) (h1 : 0 ≤ at_) (h2 : at_ ≤ 65535) (hc : w.cell? ⟨xb, xo + k, none⟩ = some (.int .u8 c))
    (hk : at_ % ((len : Int) + 1) = k) (hkl : k < len) (eo : Addr) (ce : Array Value) (te : TypeId) (hg : w.cell? ⟨0, 0, none⟩ = some (.iface 48 (.pointer (some eo)))) (heo : Bk w eo.block ce te) :
    Calls Ybaf.prog 4 #[.slice (some ⟨xb, xo, none⟩) len cap, .int .u16 at_, .bool true, .int .i64 line, .int .i64 col, .string want] w fun e w' => e = .returned (.bool true) ∧ Below w.heap.size w w' := by
  have hxb : xb < w.heap.size := World.block_lt_of_cell? _ _ hc
  have hkl' : (k : Int) < (len : Int) := by omega
  have hkn : ((k : Int) == (len : Int)) = false := by simp; omega
  have h0 : 0 < w.heap.size := World.block_lt_of_cell? _ _ hg
  have hel := heo.lt
  have HE := hide heo
  clear heo
  go_enter Ybaf.func4, Ybaf.ntmps4
  go_wp2_with fail
  refine (new_any _ _).mono ?_
  rintro e w1 ⟨rfl, rfl⟩
  go_wp2_with fail
  refine (new_any _ _).mono ?_
  rintro e w2 ⟨rfl, rfl⟩
  go_wp2_with fail
  refine (readFor_unfail (w.heap.size + 2) (w.heap.size + 3) xb xo len cap k 0 0 0 eo ⟨w.heap.size + 1, 0, none⟩ ce #[.string { data := #[117, 110, 114, 101, 97, 100, 32, 102, 97, 105, 108, 115] }] te 50 c line col 0 0 ⟨#[]⟩ want _ ?_ ?_ (by omega) hkl hlen (by omega) (by omega) (by omega) (by omega) (by omega) ?_ (by omega) ?_ ?_ ?_ (by show w.heap.size + 1 ≠ w.heap.size + 2; omega) (by omega) (by show w.heap.size + 1 ≠ eo.block; omega)).mono ?_
  · exact (four_blocks w _ _ _ _ 50 50 27 36).2.2.1
  · exact (four_blocks w _ _ _ _ 50 50 27 36).2.2.2
  · exact cell_alloc (cell_alloc (cell_alloc (cell_alloc hc _) _) _) _
  · exact cell_alloc (cell_alloc (cell_alloc (cell_alloc hg _) _) _) _
  · exact (four_blocks w _ _ _ _ 50 50 27 36).2.1
  · exact ((((unhide HE).alloc _).alloc _).alloc _).alloc _
  rintro e w3 ⟨rfl, hb3, hf3⟩
  obtain ⟨c0, c1, c2, c3, c4, c5, c6⟩ := sc_cells (show Bk w3 (w.heap.size + 1 + 1) _ 27 from hb3)
  obtain ⟨d0, d1, d2, d3, d4, d5⟩ := dc_cells (show Bk w3 (w.heap.size + 1 + 1 + 1) (dc (w.heap.size + 2) line col 0 0 ⟨#[]⟩) 36 from hf3.bk (four_blocks w _ _ _ _ 50 50 27 36).2.2.2 (by omega) (by omega))
  have x3 := hf3.cell (cell_alloc (cell_alloc (cell_alloc (cell_alloc hc _) _) _) _) (by show xb ≠ _; omega) (by show xb ≠ _; omega)
  have HF : Hid (Below w.heap.size w w3) := ((((((Below.refl w.heap.size w).alloc (Nat.le_refl _) _).alloc (by simp) _).alloc (by simp; omega) _).alloc (by simp; omega) _)).trans (hf3.below (by simp; omega) (by omega) (by omega))
  clear hb3 hf3
  go_wp2_with fail
  go_ret
  exact ⟨rfl, unhide HF⟩

set_option maxRecDepth 100000 in
theorem fail_long (a : Option Addr) (len cap : Nat) (at_ line col : Int) (uf : Bool) (want : ByteArray) (w : World) (hlen : 1024 < len) :
    Calls Ybaf.prog 4 #[.slice a len cap, .int .u16 at_, .bool uf, .int .i64 line, .int .i64 col, .string want] w fun e w' => e = .returned (.bool true) ∧ Below w.heap.size w w' := by
  have hl : (1024 : Int) < (len : Int) := by omega
  go_enter Ybaf.func4, Ybaf.ntmps4
  go_wp2_with fail
  go_ret
  exact ⟨rfl, Below.refl _ _⟩

end Go.Proofs.YbulkdbzuFmt
