/-
  (*looseReader).end (9) by its contracts.
-/
import Derived.Test.YbulkdcecFmtFull
import Derived.Test.YbulkdcecFmtSum
import Derived.Test.YbulkdcecFmtErrf
import Derived.Test.YbulkdcecFmtHex
namespace Go.Proofs.YbulkdcecFmt
open Go.RowKit Go.Extern.Stop Go.Stop Go.Extern
set_option linter.unusedVariables false
set_option linter.unusedSimpArgs false

theorem comp65 : (Ybaf.prog.info? 65).map (·.comparable) = some true := by kernel_rfl
theorem size67 : (Ybaf.prog.info? 67).map (·.size) = some 1 := by kernel_rfl
theorem under41 : Ybaf.prog.underlying 41 = some (.interface #[("Error", 69)]) := by kernel_rfl

/-- '==' between two errors of errors.New's make. -/
theorem eq_same (a : Addr) (w : World) : (binOp .eql 41 (.iface 65 (.pointer (some a))) (.iface 65 (.pointer (some a)))).run Ybaf.prog w = .ok (.bool true) w := by
  obtain ⟨i, hi, hcmp⟩ := Option.map_eq_some_iff.1 comp65
  obtain ⟨j, hj, hsz⟩ := Option.map_eq_some_iff.1 size67
  exact run_eql_iface_ptr_same w a under41 Ybaf.underlying65 hi hcmp hj
theorem eq_other (a b : Addr) (ca cb : Array Value) (ta tb : TypeId) (w : World) (hne : a.block ≠ b.block) (ha : w.heap[a.block]? = some (.cells ca ta (0, 0))) (hb : w.heap[b.block]? = some (.cells cb tb (0, 0))) :
    (binOp .eql 41 (.iface 65 (.pointer (some a))) (.iface 65 (.pointer (some b)))).run Ybaf.prog w = .ok (.bool false) w := by
  obtain ⟨i, hi, hcmp⟩ := Option.map_eq_some_iff.1 comp65
  obtain ⟨j, hj, hsz⟩ := Option.map_eq_some_iff.1 size67
  exact run_eql_iface_ptr_other w under41 Ybaf.underlying65 hi hcmp hj (by omega) (fun h => hne (by rw [h])) ha hb
theorem eq_nil (v : Value) (w : World) : (binOp .eql 41 .nilIface (.iface 65 v)).run Ybaf.prog w = .ok (.bool false) w :=
  run_eql_iface_nil_left w 41 v under41

/-- The looseReader's twenty-seven cells: the id's bytes (ids), then kind, size, left, file, zr, in, h. -/
def lrd (ids : List Value) (size left : Int) (bb hb : Nat) : Array Value :=
  (ids ++ ([.string ⟨#[98, 108, 111, 98]⟩, .int .i64 size, .int .i64 left, .pointer none, .nilIface, .pointer (some ⟨bb, 0, none⟩), .iface 25 (.pointer (some ⟨hb, 0, none⟩))] : List Value)).toArray

theorem lrd_cells {w : World} {lb : Nat} {ids : List Value} {size left : Int} {bb hb : Nat} (h : Bk w lb (lrd ids size left bb hb) 39) (hl : ids.length = 20) :
    w.cell? ⟨lb, 21, none⟩ = some (.int .i64 size) ∧ w.cell? ⟨lb, 22, none⟩ = some (.int .i64 left) ∧ w.cell? ⟨lb, 25, none⟩ = some (.pointer (some ⟨bb, 0, none⟩)) ∧ w.cell? ⟨lb, 26, none⟩ = some (.iface 25 (.pointer (some ⟨hb, 0, none⟩))) ∧ w.rangeAt lb 0 ids := by
  refine ⟨?_, ?_, ?_, ?_, ?_⟩
  · rw [h.cell]; simp [lrd, List.getElem?_append_right, hl]
  · rw [h.cell]; simp [lrd, List.getElem?_append_right, hl]
  · rw [h.cell]; simp [lrd, List.getElem?_append_right, hl]
  · rw [h.cell]; simp [lrd, List.getElem?_append_right, hl]
  · intro j v hv
    have hj : j < ids.length := (List.getElem?_eq_some_iff.1 hv).1
    rw [h.cell, Nat.zero_add]
    simp [lrd, List.getElem?_append_left hj, hv]

/-- What was new to the whole need not be named. -/
theorem Fr.also {S T : List Nat} {a b c : World} (h : Fr T a b) (k : Fr S b c) (hs : ∀ x, x ∈ S → x ∈ T ∨ a.heap.size ≤ x) : Fr T a c :=
  ⟨k.os.trans h.os, k.tape.trans h.tape, k.output.trans h.output, Nat.le_trans h.size k.size, fun i hi h1 => (k.block i (Nat.lt_of_lt_of_le hi h.size) (fun e => by
    rcases hs i e with g | g
    · exact h1 g
    · omega)).trans (h.block i hi h1)⟩

attribute [local go_sem] eq_same eq_nil

set_option maxHeartbeats 1000000 in
/-- Data are left: 'content runs past ..'. -/
theorem end_past (rb bb ub hb lb b o len cap pos : Nat) (z : Nat → Int) (ids : List Value) (size : Int) (w : World) (hlr : Bk w lb (lrd ids size 0 bb hb) 39) (hids : ids.length = 20)
    (h : RD w rb bb ub (some ⟨b, o, none⟩) len cap z pos) (hpos : pos < len) (hlc : len ≤ cap) (hlen : len ≤ 1024) (hz : ∀ j, j < len → w.cell? ⟨b, o + j, none⟩ = some (.int .u8 (z j)))
    (n3 : bb ≠ ub) (n4 : rb ≠ bb) (n5 : rb ≠ ub) (n7 : b ≠ rb) (n8 : b ≠ bb) (n9 : b ≠ ub) (n11 : lb ≠ rb) (n12 : lb ≠ bb) (n13 : lb ≠ ub) :
    Calls Ybaf.prog 9 #[.pointer (some ⟨lb, 0, none⟩)] w fun e w' => ∃ v, e = .returned v ∧ ∃ k s, v = .iface 65 (.pointer (some ⟨k, 0, none⟩)) ∧ w.heap.size ≤ k ∧ Bk w' k #[.string s] 67 ∧ Fr [rb, bb, ub] w w' := by
  obtain ⟨l0, l1, l2, l3, l4⟩ := lrd_cells hlr hids
  have hlb := hlr.lt
  obtain ⟨hrb, hbb, hub⟩ : rb < w.heap.size ∧ bb < w.heap.size ∧ ub < w.heap.size := by
    obtain ⟨i, r, wr, pr, lb', lr, cs, g1, g2, g3, _⟩ := h
    exact ⟨g1.lt, g2.lt, g3.lt⟩
  have hb0 : b < w.heap.size := World.block_lt_of_cell? _ _ (hz 0 (by omega))
  have HR := hide h
  have HZ := hide hz
  have HL := hide hlr
  clear h hz hlr l4
  go_enter Ybaf.func9, Ybaf.ntmps9
  go_wp2_with fail
  have hR1 : RD (w.alloc (.cells #[.int .u8 0] 56)) rb bb ub (some ⟨b, o, none⟩) len cap z pos := (unhide HR).keep ((Fr.refl [] w).alloc _) (by simp) (by simp) (by simp)
  have hZ1 : ∀ j, j < len → (w.alloc (.cells #[.int .u8 0] 56)).cell? ⟨b, o + j, none⟩ = some (.int .u8 (z j)) := fun j hj => cell_alloc (unhide HZ j hj) _
  have hx1 : Bk (w.alloc (.cells #[.int .u8 0] 56)) w.heap.size [.int .u8 0].toArray 56 := Bk.fresh w _ 56
  have k0 := cell_alloc l0 (.cells #[.int .u8 0] 56)
  have k2 := cell_alloc l2 (.cells #[.int .u8 0] 56)
  have hF1 : Fr [rb, bb, ub] w (w.alloc (.cells #[.int .u8 0] 56)) := (Fr.refl _ w).alloc _
  have hs1 : (w.alloc (.cells #[.int .u8 0] 56)).heap.size = w.heap.size + 1 := by simp
  generalize w.alloc (.cells #[.int .u8 0] 56) = W1 at hR1 hZ1 hx1 k0 k2 hF1 hs1 ⊢
  have HR1 := hide hR1
  have HZ1 := hide hZ1
  have HX1 := hide hx1
  have HF1 := hide hF1
  have HS1 := hide hs1
  clear hR1 hZ1 hx1 hF1 hs1 HR HZ HL l0 l1 l2 l3
  go_region_held3 (fun w' => w'.cell? ⟨lb, 25, none⟩ = some (.pointer (some ⟨bb, 0, none⟩))) (simp [*])
    ((go_at_call 12
      refine (full_ok rb bb ub w.heap.size b o len cap pos 56 z (.int .u8 0) _ (by exact unhide HR1) hpos hlc hlen (by exact unhide HZ1) (by exact unhide HX1) (by omega) (by omega) n3 n4 n5 (by omega) n7 n8 n9 (by omega)).mono ?_
      rintro e w2 ⟨rfl, g3⟩
      have j2 := g3.cell (show W1.drew.cell? ⟨lb, 25, none⟩ = _ from k2) (by simp; exact ⟨n11, n12, n13, by omega⟩)
      have j0 := g3.cell (show W1.drew.cell? ⟨lb, 21, none⟩ = _ from k0) (by simp; exact ⟨n11, n12, n13, by omega⟩)))
  have hF2 : Fr [rb, bb, ub] w w2 := ((unhide HF1).of_heap (w'' := W1.drew) rfl rfl rfl rfl).also g3 (by simp)
  have HF2 := hide hF2
  clear hF2 g3 HF1 HX1 HZ1 HR1 k0 k2
  go_wp2_with fail
  refine (errorf2 size w2.heap.size (w2.alloc (.cells #[.iface 2 (.int .i64 size)] 20)) (by simp)).mono ?_
  rintro e w3 ⟨v, rfl, k, s, rfl, hk, hbk, hbl⟩
  simp only [World.size_alloc] at hk hbl
  have hsz := (unhide HF2).size
  have hK : w.heap.size ≤ k := by omega
  have HK := hide hbk
  have HF3 : Hid (Fr [rb, bb, ub] w w3) := ((unhide HF2).alloc _).trans (Fr.of_below (by simpa using hbl))
  clear hbk hbl hk
  go_wp2_with fail
  go_ret
  exact ⟨_, rfl, k, s, rfl, hK, unhide HK, unhide HF3⟩

end Go.Proofs.YbulkdcecFmt
