/-
  io.ReadAtLeast (19) and io.ReadFull (12) at a buffer of one byte, over the bufio.Reader.
-/
import Derived.Test.YbulkdcecFmtBuf3
import Derived.LoopN
namespace Go.Proofs.YbulkdcecFmt
open Go.RowKit Go.Extern.Stop Go.Stop Go.Extern
set_option linter.unusedVariables false
set_option linter.unusedSimpArgs false

theorem n_bufread (a : Addr) (w : World) : (nilAhead 195 30 (.pointer (some a)) "Read").run Ybaf.prog w = .ok (some false) w := by kernel_rfl
attribute [local go_sem] m_bufread n_bufread

set_option maxHeartbeats 1000000 in
theorem atLeast_ok (rb bb ub xb b o len cap pos : Nat) (T : TypeId) (z : Nat → Int) (x : Value) (w : World)
    (h : RD w rb bb ub (some ⟨b, o, none⟩) len cap z pos) (hpos : pos < len) (hlc : len ≤ cap) (hlen : len ≤ 1024)
    (hz : ∀ j, j < len → w.cell? ⟨b, o + j, none⟩ = some (.int .u8 (z j))) (hx : Bk w xb [x].toArray T)
    (n1 : xb ≠ bb) (n2 : xb ≠ ub) (n3 : bb ≠ ub) (n4 : rb ≠ bb) (n5 : rb ≠ ub) (n6 : rb ≠ xb) (n7 : b ≠ rb) (n8 : b ≠ bb) (n9 : b ≠ ub) (n10 : b ≠ xb) :
    Calls Ybaf.prog 19 #[.iface 30 (.pointer (some ⟨bb, 0, none⟩)), .slice (some ⟨xb, 0, none⟩) 1 1, .int .i64 1] w fun e w' => e = .returned (.tuple #[.int .i64 1, .nilIface]) ∧ Fr [rb, bb, ub, xb] w w' := by
  have HR := hide h
  have HZ := hide hz
  have HX := hide hx
  clear h hz hx
  go_enter Ybaf.func19, Ybaf.ntmps19
  go_wp2_with fail
  refine wp_loop_rounds 2 ?_
  rw [rounds_succ]
  go_wp2_with fail
  go_region_held3 (fun w' => True) (trivial)
    ((go_at_call 10
      refine (bufRead_ok rb bb ub xb b o len cap pos 1 1 T z [x] _ (by exact unhide HR) hpos hlc hlen (by exact unhide HZ) (by exact unhide HX) (by simp) (by omega) (by omega) n1 n2 n3 n4 n5 n6 n7 n8 n9 n10).mono ?_
      rintro e w2 ⟨n, hn1, hn2, hn3, rfl, g1, g2, g3⟩
      obtain rfl : n = 1 := by omega
      have HF2 : Hid (Fr [rb, bb, ub, xb] w w2) := ((Fr.refl _ w).of_heap (w'' := w.drew) rfl rfl rfl rfl).trans g3
      clear g1 g2 g3))
  go_wp2_with fail
  rw [rounds_succ]
  go_wp2_with fail
  go_ret2
  exact ⟨rfl, unhide HF2⟩

set_option maxHeartbeats 1000000 in
theorem atLeast_end (rb bb ub xb len cap : Nat) (a : Option Addr) (z : Nat → Int) (eo : Addr) (w : World)
    (h : RD w rb bb ub a len cap z len) (hlen : len ≤ 1024) (n3 : bb ≠ ub) (n4 : rb ≠ bb) (h0 : 0 ≠ bb) (h0r : 0 ≠ rb) (h0u : 0 ≠ ub) (hg : w.cell? ⟨0, 0, none⟩ = some (.iface 65 (.pointer (some eo)))) :
    Calls Ybaf.prog 19 #[.iface 30 (.pointer (some ⟨bb, 0, none⟩)), .slice (some ⟨xb, 0, none⟩) 1 1, .int .i64 1] w fun e w' => e = .returned (.tuple #[.int .i64 0, .iface 65 (.pointer (some eo))]) ∧
      Fr [rb, bb, ub] w w' := by
  have HR := hide h
  clear h
  go_enter Ybaf.func19, Ybaf.ntmps19
  go_wp2_with fail
  refine wp_loop_rounds 2 ?_
  rw [rounds_succ]
  go_wp2_with fail
  go_region_held3 (fun w' => True) (trivial)
    ((go_at_call 10
      refine (bufRead_end rb bb ub len cap 1 1 (some ⟨xb, 0, none⟩) a z eo _ (by exact unhide HR) hlen (by omega) (by omega) n3 n4 h0 (by exact hg)).mono ?_
      rintro e w2 ⟨rfl, g1, g3⟩
      have HF2 : Hid (Fr [rb, bb, ub] w w2) := ((Fr.refl _ w).of_heap (w'' := w.drew) rfl rfl rfl rfl).trans g3
      clear g1 g3))
  go_wp2_with fail
  rw [rounds_succ]
  go_wp2_with fail
  go_ret2
  exact ⟨rfl, unhide HF2⟩

theorem full_ok (rb bb ub xb b o len cap pos : Nat) (T : TypeId) (z : Nat → Int) (x : Value) (w : World)
    (h : RD w rb bb ub (some ⟨b, o, none⟩) len cap z pos) (hpos : pos < len) (hlc : len ≤ cap) (hlen : len ≤ 1024)
    (hz : ∀ j, j < len → w.cell? ⟨b, o + j, none⟩ = some (.int .u8 (z j))) (hx : Bk w xb [x].toArray T)
    (n1 : xb ≠ bb) (n2 : xb ≠ ub) (n3 : bb ≠ ub) (n4 : rb ≠ bb) (n5 : rb ≠ ub) (n6 : rb ≠ xb) (n7 : b ≠ rb) (n8 : b ≠ bb) (n9 : b ≠ ub) (n10 : b ≠ xb) :
    Calls Ybaf.prog 12 #[.iface 30 (.pointer (some ⟨bb, 0, none⟩)), .slice (some ⟨xb, 0, none⟩) 1 1] w fun e w' => e = .returned (.tuple #[.int .i64 1, .nilIface]) ∧ Fr [rb, bb, ub, xb] w w' := by
  go_enter Ybaf.func12, Ybaf.ntmps12
  go_wp2_with fail
  refine (atLeast_ok rb bb ub xb b o len cap pos T z x w h hpos hlc hlen hz hx n1 n2 n3 n4 n5 n6 n7 n8 n9 n10).mono ?_
  rintro e w2 ⟨rfl, g3⟩
  have HF2 := hide g3
  clear g3 h hz hx
  go_wp2_with fail
  go_ret2
  exact ⟨rfl, unhide HF2⟩

theorem full_end (rb bb ub xb len cap : Nat) (a : Option Addr) (z : Nat → Int) (eo : Addr) (w : World)
    (h : RD w rb bb ub a len cap z len) (hlen : len ≤ 1024) (n3 : bb ≠ ub) (n4 : rb ≠ bb) (h0 : 0 ≠ bb) (h0r : 0 ≠ rb) (h0u : 0 ≠ ub) (hg : w.cell? ⟨0, 0, none⟩ = some (.iface 65 (.pointer (some eo)))) :
    Calls Ybaf.prog 12 #[.iface 30 (.pointer (some ⟨bb, 0, none⟩)), .slice (some ⟨xb, 0, none⟩) 1 1] w fun e w' => e = .returned (.tuple #[.int .i64 0, .iface 65 (.pointer (some eo))]) ∧ Fr [rb, bb, ub] w w' := by
  go_enter Ybaf.func12, Ybaf.ntmps12
  go_wp2_with fail
  refine (atLeast_end rb bb ub xb len cap a z eo w h hlen n3 n4 h0 h0r h0u hg).mono ?_
  rintro e w2 ⟨rfl, g3⟩
  have HF2 := hide g3
  clear g3 h
  go_wp2_with fail
  go_ret2
  exact ⟨rfl, unhide HF2⟩

end Go.Proofs.YbulkdcecFmt
