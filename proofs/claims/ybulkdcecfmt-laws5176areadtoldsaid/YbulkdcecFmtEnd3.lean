/-
  (*looseReader).end (9) at the end of the data: the two walks.
-/
import Derived.Test.YbulkdcecFmtEnd2
namespace Go.Proofs.YbulkdcecFmt
open Go.RowKit Go.Extern.Stop Go.Stop Go.Extern
set_option linter.unusedVariables false
set_option linter.unusedSimpArgs false

theorem u8s_one (xs : List Int) : ∀ v ∈ u8s xs, v.oneCell' = true := by
  intro v hv
  simp only [u8s, List.mem_map] at hv
  obtain ⟨x, _, rfl⟩ := hv
  rfl

theorem range_keep {S : List Nat} {w w' : World} {b o : Nat} {cs : List Value} (h : w.rangeAt b o cs) (hf : Fr S w w') (hb : b ∉ S) : w'.rangeAt b o cs :=
  fun j v hv => hf.cell (h j v hv) hb

attribute [local go_sem] eq_same eq_nil neq_same
attribute [local go_sem] eq_same

set_option maxRecDepth 10000 in
set_option maxHeartbeats 1000000 in
theorem end_same (rb bb ub hb lb len cap : Nat) (a : Option Addr) (z : Nat → Int) (xs : List Int) (lv : Value) (eo : Addr) (size : Int) (w : World) (hlr : Bk w lb (lrd (u8s xs) size 0 bb hb) 39) (hx : InU8 xs) (lx : xs.length = 20)
    (hh : Bk w hb (hs lv (u8s xs)) 27)
    (h : RD w rb bb ub a len cap z len) (hlen : len ≤ 1024) (hg : w.cell? ⟨0, 0, none⟩ = some (.iface 65 (.pointer (some eo))))
    (n3 : bb ≠ ub) (n4 : rb ≠ bb) (n5 : rb ≠ ub) (n11 : lb ≠ rb) (n12 : lb ≠ bb) (n13 : lb ≠ ub) (n14 : hb ≠ rb) (n15 : hb ≠ bb) (n16 : hb ≠ ub) (m1 : 0 ≠ rb) (m2 : 0 ≠ bb) (m3 : 0 ≠ ub) :
    Calls Ybaf.prog 9 #[.pointer (some ⟨lb, 0, none⟩)] w fun e w' => e = .returned (.iface 65 (.pointer (some eo))) ∧ Fr [rb, bb, ub] w w' := by
  obtain ⟨l0, l1, l2, l3, l4⟩ := lrd_cells hlr (by rw [u8s_length]; exact lx)
  have hlb := hlr.lt
  have hhb := hh.lt
  obtain ⟨hrb, hbb, hub⟩ : rb < w.heap.size ∧ bb < w.heap.size ∧ ub < w.heap.size := by
    obtain ⟨i, r, wr, pr, lb', lr, cs, g1, g2, g3, _⟩ := h
    exact ⟨g1.lt, g2.lt, g3.lt⟩
  have HR := hide h
  have HH := hide hh
  have HX := hide hx
  have HLX := hide lx
  have HL4 := hide l4
  clear h hh hx lx hlr l4
  go_enter Ybaf.func9, Ybaf.ntmps9
  go_wp2_with fail
  have hR1 : RD (w.alloc (.cells #[.int .u8 0] 56)) rb bb ub a len cap z len := (unhide HR).keep ((Fr.refl [] w).alloc _) (by simp) (by simp) (by simp)
  have k2 := cell_alloc l2 (.cells #[.int .u8 0] 56)
  have k3 := cell_alloc l3 (.cells #[.int .u8 0] 56)
  have kg := cell_alloc hg (.cells #[.int .u8 0] 56)
  have k4 : (w.alloc (.cells #[.int .u8 0] 56)).rangeAt lb 0 (u8s xs) := World.rangeAt_alloc (unhide HL4) _
  have kh := (unhide HH).alloc (.cells #[.int .u8 0] 56)
  have hF1 : Fr [rb, bb, ub] w (w.alloc (.cells #[.int .u8 0] 56)) := (Fr.refl _ w).alloc _
  have hs1 : (w.alloc (.cells #[.int .u8 0] 56)).heap.size = w.heap.size + 1 := by simp
  generalize w.alloc (.cells #[.int .u8 0] 56) = W1 at hR1 k2 k3 kg k4 kh hF1 hs1 ⊢
  have HR1 := hide hR1
  have HF1 := hide hF1
  have HS1 := hide hs1
  have HK4 := hide k4
  have HKH := hide kh
  clear hR1 hF1 hs1 HR HH HL4 l0 l1 l2 l3 k4 kh hg
  go_region_held3 (fun w' => w'.cell? ⟨lb, 25, none⟩ = some (.pointer (some ⟨bb, 0, none⟩))) (simp [*])
    ((go_at_call 12
      refine (full_end rb bb ub w.heap.size len cap a z eo _ (by exact unhide HR1) hlen n3 n4 m2 m1 m3 (by exact kg)).mono ?_
      rintro e w2 ⟨rfl, g3⟩
      have j2 := g3.cell (show W1.drew.cell? ⟨lb, 25, none⟩ = _ from k2) (by simp; exact ⟨n11, n12, n13⟩)
      have j3 := g3.cell (show W1.drew.cell? ⟨lb, 26, none⟩ = _ from k3) (by simp; exact ⟨n11, n12, n13⟩)
      have jg := g3.cell (show W1.drew.cell? ⟨0, 0, none⟩ = _ from kg) (by simp; exact ⟨m1, m2, m3⟩)))
  have hF2 : Fr [rb, bb, ub] w w2 := ((unhide HF1).of_heap (w'' := W1.drew) rfl rfl rfl rfl).trans g3
  have j4 : w2.rangeAt lb 0 (u8s xs) := range_keep ((World.rangeAt_drew W1 _ _ _).2 (unhide HK4)) g3 (by simp; exact ⟨n11, n12, n13⟩)
  have jh : Bk w2 hb (hs lv (u8s xs)) 27 := g3.bk (show Bk W1.drew hb _ 27 from unhide HKH) (by simp; exact ⟨n14, n15, n16⟩)
  have HF2 := hide hF2
  have HJ4 := hide j4
  have HJH := hide jh
  clear hF2 g3 HF1 HR1 k2 k3 kg j4 jh HK4 HKH
  go_wp2_with fail
  have j4 := unhide HJ4
  have e1 := under24
  have e2 : (Ybaf.prog.info? 24).map (·.size) = some (u8s xs).length := by rw [u8s_length, unhide HLX]; exact info24
  have e3 : (u8s xs).length = 20 := by rw [u8s_length]; exact unhide HLX
  have e4 := u8s_one xs
  have e5 := guard24
  have e6 : ∀ w, (Op.equalIn 10000 24 (.agg (u8s xs).toArray) (.agg (u8s xs).toArray)).run Ybaf.prog w = .ok true w := fun w => by
    rw [equalIn24 xs xs (unhide HX) (unhide HX) (unhide HLX) (unhide HLX) w]; simp
  go_region_held3 (fun w' => w'.cell? ⟨lb, 26, none⟩ = some (.iface 25 (.pointer (some ⟨hb, 0, none⟩))) ∧ w'.rangeAt lb 0 (u8s xs)) (exact ⟨by first | assumption | (simp [*]; done), by first | assumption | exact (World.rangeAt_drew _ _ _ _).2 (by assumption)⟩)
    ((go_at_call 13
      refine (sum_any hb lv (u8s xs) _ (by exact unhide HJH) e3 e4).mono ?_
      rintro e w3 ⟨rfl, g3⟩
      have i3 : w3.cell? ⟨lb, 26, none⟩ = some (.iface 25 (.pointer (some ⟨hb, 0, none⟩))) := (Fr.of_below (S := []) g3).cell (show w2.drew.cell? ⟨lb, 26, none⟩ = _ from j3) (by simp)
      have i4 : w3.rangeAt lb 0 (u8s xs) := range_keep ((World.rangeAt_drew w2 _ _ _).2 j4) (Fr.of_below (S := []) g3) (by simp)
      have ig : w3.cell? ⟨0, 0, none⟩ = some (.iface 65 (.pointer (some eo))) := (Fr.of_below (S := []) g3).cell (show w2.drew.cell? ⟨0, 0, none⟩ = _ from jg) (by simp)))
  have HF3 : Hid (Fr [rb, bb, ub] w w3) := ((unhide HF2).of_heap (w'' := w2.drew) rfl rfl rfl rfl).trans (Fr.of_below g3)
  clear g3 j4 e4 e6 i4
  go_wp2_with fail
  go_ret
  exact ⟨rfl, unhide HF3⟩

end Go.Proofs.YbulkdcecFmt
