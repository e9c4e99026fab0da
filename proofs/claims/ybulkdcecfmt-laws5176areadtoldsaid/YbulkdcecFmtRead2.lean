/-
  (*looseReader).Read (6) where the data have run out ahead of the header's size.
-/
import Derived.Test.YbulkdcecFmtRead
namespace Go.Proofs.YbulkdcecFmt
open Go.RowKit Go.Extern.Stop Go.Stop Go.Extern
set_option linter.unusedVariables false
set_option linter.unusedSimpArgs false
theorem mem3 (a b c d e f : Nat) (l : List Nat) : ∀ x, x ∈ [a, b, c] → x ∈ a :: b :: c :: d :: e :: f :: l := by
  intro x hx
  simp only [List.mem_cons, List.not_mem_nil, or_false] at hx ⊢
  rcases hx with h | h | h <;> simp [h]
attribute [local go_sem] eq_same eq_nil m_write n_write


set_option maxRecDepth 10000 in
set_option maxHeartbeats 1000000 in
theorem read_shortT (rb bb ub hb lb pb len cap k left base : Nat) (a : Option Addr) (z : Nat → Int) (ids ds : List Value) (size : Int) (lv : Value) (w : World)
    (h : RD w rb bb ub a len cap z len) (hlen : len ≤ 1024) (hk1 : 1 ≤ k) (hk2 : k ≤ 40)
    (hlr : Bk w lb (lrd ids size left bb hb) 39) (hids : ids.length = 20) (hl1 : 1 ≤ left) (hl2 : left ≤ 2000) (hkl : left < k) (hsz1 : 0 ≤ size) (hsz2 : size ≤ 2000)
    (hh : Bk w hb (hs lv ds) 27) (hown : Own w base lv len z) (hbase : base ≤ w.heap.size) (hhb : hb < base) (hpb : pb < w.heap.size)
    (n3 : bb ≠ ub) (n4 : rb ≠ bb) (n5 : rb ≠ ub)
    (n11 : lb ≠ rb) (n12 : lb ≠ bb) (n13 : lb ≠ ub) (n14 : hb ≠ rb) (n15 : hb ≠ bb) (n16 : hb ≠ ub) (n19 : lb ≠ hb)
    (o1 : rb < base) (o2 : bb < base) (o3 : ub < base) (o4 : lb < base)
    (eo : Addr) (m1 : 0 ≠ rb) (m2 : 0 ≠ bb) (m3 : 0 ≠ ub) (m4 : 0 ≠ hb) (m5 : 0 ≠ lb) (m7 : 0 < base) (hg : w.cell? ⟨0, 0, none⟩ = some (.iface 65 (.pointer (some eo)))) :
    Calls Ybaf.prog 6 #[.pointer (some ⟨lb, 0, none⟩), .slice (some ⟨pb, 0, none⟩) k k] w fun e w' => ∃ v lv', e = .returned (.tuple #[.int .i64 0, v]) ∧
      (∃ g s, v = .iface 65 (.pointer (some ⟨g, 0, none⟩)) ∧ w.heap.size ≤ g ∧ Bk w' g #[.string s] 67) ∧
      RD w' rb bb ub a len cap z len ∧ Bk w' lb (lrd ids size left bb hb) 39 ∧
      Bk w' hb (hs lv' ds) 27 ∧ Own w' base lv' len z ∧ Fr (rb :: bb :: ub :: pb :: hb :: lb :: lv.ownBlock.toList) w w' ∧ (lv'.ownBlock = lv.ownBlock ∨ ∃ g, lv'.ownBlock = some g ∧ w.heap.size ≤ g) := by
  obtain ⟨l0, l1, l2, l3, l4⟩ := lrd_cells hlr hids
  have HR := hide h
  have HL := hide hlr
  have HH := hide hh
  have HO := hide hown
  have hkl' : (k : Int) > (left : Int) := by omega
  have hl3 : ¬ ((left : Int) = 0) := by omega
  clear h hlr hh hown l4
  go_enter Ybaf.func6, Ybaf.ntmps6
  go_wp2_with fail
  refine (bufRead_end rb bb ub len cap left k _ a z eo w (unhide HR) hlen (by omega) (by omega) n3 n4 m2 hg).mono ?_
  rintro e w2 ⟨rfl, g1, g3⟩
  have j3 := g3.cell l3 (by simp; exact ⟨n11, n12, n13⟩)
  have jg := g3.cell hg (by simp; exact ⟨m1, m2, m3⟩)
  have jl := g3.bk (unhide HL) (by simp; exact ⟨n11, n12, n13⟩)
  have jh := g3.bk (unhide HH) (by simp; exact ⟨n14, n15, n16⟩)
  have jo : Own w2 base lv len z := (unhide HO).keep g3 (fun g hg' => by
    have := ((unhide HO).lt g hg').1
    simp only [List.mem_cons, List.not_mem_nil, or_false, not_or]
    exact ⟨by omega, by omega, by omega⟩)
  have hs2 := g3.size
  have G1 := hide g1
  have G3 := hide g3
  have JL := hide jl
  have JH := hide jh
  have JO := hide jo
  clear g1 g3 jl jh jo l0 l1 l2 l3 hg HR HL HH HO
  go_wp2_with fail
  go_region_held3 (fun w' => w'.cell? ⟨lb, 26, none⟩ = some (.iface 25 (.pointer (some ⟨hb, 0, none⟩)))) (simp [*])
    ((go_at_call 40
      refine (write_any hb pb base len 0 k lv z ds _ (by exact unhide JH) (by exact unhide JO) (fun j hj => absurd hj (Nat.not_lt_zero _)) (by omega) (by first | omega | (simp; omega)) hhb).mono ?_
      rintro e w3 ⟨lv', rfl, f1, f2, f3, f4⟩
      have hlbS : lb ∉ hb :: lv.ownBlock.toList := by
        simp only [List.mem_cons, Option.mem_toList, not_or]
        exact ⟨n19, fun hq => by have := ((unhide JO).lt lb hq).1; omega⟩
      have i3 := f3.cell (show w2.drew.cell? ⟨lb, 26, none⟩ = _ from j3) hlbS
      have il := f3.bk (show Bk w2.drew lb _ 39 from unhide JL) hlbS
      have ig := f3.cell (show w2.drew.cell? ⟨0, 0, none⟩ = _ from jg) (by
        simp only [List.mem_cons, Option.mem_toList, not_or]
        exact ⟨m4, fun hq => by have := ((unhide JO).lt 0 hq).1; omega⟩)))
  have f2' : RD w3 rb bb ub a len cap z len := (unhide G1).keep (show Fr _ w2 w3 from ((Fr.refl _ w2).of_heap (w'' := w2.drew) rfl rfl rfl rfl).trans f3) (by
      simp only [List.mem_cons, Option.mem_toList, not_or]
      exact ⟨fun h => n14 h.symm, fun hq => by have := ((unhide JO).lt _ hq).1; omega⟩) (by
      simp only [List.mem_cons, Option.mem_toList, not_or]
      exact ⟨fun h => n15 h.symm, fun hq => by have := ((unhide JO).lt _ hq).1; omega⟩) (by
      simp only [List.mem_cons, Option.mem_toList, not_or]
      exact ⟨fun h => n16 h.symm, fun hq => by have := ((unhide JO).lt _ hq).1; omega⟩)
  have hF3 : Fr (rb :: bb :: ub :: pb :: hb :: lb :: lv.ownBlock.toList) w w3 := (((unhide G3).wide (T := rb :: bb :: ub :: pb :: hb :: lb :: lv.ownBlock.toList) (mem3 _ _ _ _ _ _ _)).of_heap (w'' := w2.drew) rfl rfl rfl rfl).trans (f3.wide (mem2 _ _ _ _ _ _ _))
  have f4' : lv'.ownBlock = lv.ownBlock ∨ ∃ g, lv'.ownBlock = some g ∧ w.heap.size ≤ g := by
    rcases f4 with f | f
    · exact .inl f
    · exact .inr ⟨_, f, by simpa using hs2⟩
  have c22 : w3.cell? ⟨lb, 22, none⟩ = some (.int .i64 left) := (lrd_cells il hids).2.1
  have z22 := il.frozen 22
  have hwr : IntKind.i64.wrap (left : Int) = (left : Int) := by
    simp only [IntKind.wrap_i64]
    omega
  have hwr2 : IntKind.i64.wrap ((left : Int) - 0) = (left : Int) := by
    simp only [IntKind.wrap_i64]
    omega
  have hF4 : Hid (Fr [lb] w3 (w3.setCell ⟨lb, 22, none⟩ (.int .i64 left))) := (Fr.refl [lb] w3).set (by simp) 22 _
  have F1 : Hid (Bk (w3.setCell ⟨lb, 22, none⟩ (.int .i64 left)) hb (hs lv' ds) 27) := f1.setOther _ _ n19
  have F2 : Hid (Own (w3.setCell ⟨lb, 22, none⟩ (.int .i64 left)) base lv' len z) := Own.keep (show Own w3 base lv' len z from f2) (unhide hF4) (by
    intro g hq
    have := (f2.lt g hq).1
    simp; omega)
  have F2' : Hid (RD (w3.setCell ⟨lb, 22, none⟩ (.int .i64 left)) rb bb ub a len cap z len) := f2'.keep (unhide hF4) (by simp; exact fun h => n11 h.symm) (by simp; exact fun h => n12 h.symm) (by simp; exact fun h => n13 h.symm)
  have IL : Hid (Bk (w3.setCell ⟨lb, 22, none⟩ (.int .i64 left)) lb (lrd ids size left bb hb) 39) := by
    have hb1 := il.set 22 (.int .i64 (left : Int))
    rwa [lrd_left _ _ _ _ _ _ hids] at hb1
  have HF3 : Hid (Fr (rb :: bb :: ub :: pb :: hb :: lb :: lv.ownBlock.toList) w (w3.setCell ⟨lb, 22, none⟩ (.int .i64 left))) := hF3.set (by simp) 22 _
  have F4 := hide f4'
  have GG : Hid ((w3.setCell ⟨lb, 22, none⟩ (.int .i64 left)).cell? ⟨0, 0, none⟩ = some (.iface 65 (.pointer (some eo)))) := (unhide hF4).cell ig (by simp; exact m5)
  have CC := hide c22
  clear f1 f2 f2' hF3 f4 f4' f3 hlbS il
  go_wp2_with fail
  clear hF4
  generalize w3.setCell ⟨lb, 22, none⟩ (.int .i64 left) = W4 at F1 F2 F2' IL HF3 GG ⊢
  obtain ⟨t0, t1, _, _, _⟩ := lrd_cells (unhide IL) hids
  have hsl : IntKind.i64.wrap (size - (left : Int)) = size - (left : Int) := by
    simp only [IntKind.wrap_i64]
    omega
  clear i3 ig c22 z22 hwr hwr2 CC j3 jg
  go_region_held3 (fun w' => w'.cell? ⟨lb, 21, none⟩ = some (.int .i64 size) ∧ w'.cell? ⟨lb, 22, none⟩ = some (.int .i64 left)) (simp [*, World.cell?_alloc_some])
    ((go_at_call 11
      refine (errorf1 (size - left) size W4.heap.size (W4.drew.alloc (.cells #[.iface 2 (.int .i64 (size - left)), .iface 2 (.int .i64 size)] 20)) (by exact (Bk.fresh W4.drew _ 20).cell 0) (by exact (Bk.fresh W4.drew _ 20).cell 1)).mono ?_
      rintro e w5 ⟨v, rfl, kk, s, rfl, hkk, hbk, hbl⟩
      have t0' := (Fr.of_below (S := []) hbl).cell (cell_alloc (show W4.drew.cell? ⟨lb, 21, none⟩ = _ from t0) _) (by simp)
      have t1' := (Fr.of_below (S := []) hbl).cell (cell_alloc (show W4.drew.cell? ⟨lb, 22, none⟩ = _ from t1) _) (by simp)))
  have hF5 : Fr [] W4 w5 := (((Fr.refl [] W4).of_heap (w'' := W4.drew) rfl rfl rfl rfl).alloc _).trans (Fr.of_below hbl)
  have HF5 := hide hF5
  have HBK := hide hbk
  have hsz4 := (unhide HF3).size
  have HKK : Hid (w.heap.size ≤ kk) := by
    simp only [World.size_alloc] at hkk
    have hdd : W4.drew.heap.size = W4.heap.size := rfl
    show w.heap.size ≤ kk
    omega
  clear hF5 hbk hbl hkk t0 t1 t0' t1'
  go_wp2_with fail
  go_ret2
  refine ⟨_, lv', rfl, ⟨kk, s, rfl, unhide HKK, unhide HBK⟩, (unhide F2').keep (unhide HF5) (by simp) (by simp) (by simp), (unhide HF5).bk (unhide IL) (by simp), (unhide HF5).bk (unhide F1) (by simp), (unhide F2).keep (unhide HF5) (by simp), (unhide HF3).trans ((unhide HF5).wide (by simp)), unhide F4⟩

set_option maxRecDepth 10000 in
set_option maxHeartbeats 1000000 in
theorem read_shortF (rb bb ub hb lb pb len cap k left base : Nat) (a : Option Addr) (z : Nat → Int) (ids ds : List Value) (size : Int) (lv : Value) (w : World)
    (h : RD w rb bb ub a len cap z len) (hlen : len ≤ 1024) (hk1 : 1 ≤ k) (hk2 : k ≤ 40)
    (hlr : Bk w lb (lrd ids size left bb hb) 39) (hids : ids.length = 20) (hl1 : 1 ≤ left) (hl2 : left ≤ 2000) (hkl : k ≤ left) (hsz1 : 0 ≤ size) (hsz2 : size ≤ 2000)
    (hh : Bk w hb (hs lv ds) 27) (hown : Own w base lv len z) (hbase : base ≤ w.heap.size) (hhb : hb < base) (hpb : pb < w.heap.size)
    (n3 : bb ≠ ub) (n4 : rb ≠ bb) (n5 : rb ≠ ub)
    (n11 : lb ≠ rb) (n12 : lb ≠ bb) (n13 : lb ≠ ub) (n14 : hb ≠ rb) (n15 : hb ≠ bb) (n16 : hb ≠ ub) (n19 : lb ≠ hb)
    (o1 : rb < base) (o2 : bb < base) (o3 : ub < base) (o4 : lb < base)
    (eo : Addr) (m1 : 0 ≠ rb) (m2 : 0 ≠ bb) (m3 : 0 ≠ ub) (m4 : 0 ≠ hb) (m5 : 0 ≠ lb) (m7 : 0 < base) (hg : w.cell? ⟨0, 0, none⟩ = some (.iface 65 (.pointer (some eo)))) :
    Calls Ybaf.prog 6 #[.pointer (some ⟨lb, 0, none⟩), .slice (some ⟨pb, 0, none⟩) k k] w fun e w' => ∃ v lv', e = .returned (.tuple #[.int .i64 0, v]) ∧
      (∃ g s, v = .iface 65 (.pointer (some ⟨g, 0, none⟩)) ∧ w.heap.size ≤ g ∧ Bk w' g #[.string s] 67) ∧
      RD w' rb bb ub a len cap z len ∧ Bk w' lb (lrd ids size left bb hb) 39 ∧
      Bk w' hb (hs lv' ds) 27 ∧ Own w' base lv' len z ∧ Fr (rb :: bb :: ub :: pb :: hb :: lb :: lv.ownBlock.toList) w w' ∧ (lv'.ownBlock = lv.ownBlock ∨ ∃ g, lv'.ownBlock = some g ∧ w.heap.size ≤ g) := by
  obtain ⟨l0, l1, l2, l3, l4⟩ := lrd_cells hlr hids
  have HR := hide h
  have HL := hide hlr
  have HH := hide hh
  have HO := hide hown
  have hkl' : ¬ ((k : Int) > (left : Int)) := by omega
  have hl3 : ¬ ((left : Int) = 0) := by omega
  clear h hlr hh hown l4
  go_enter Ybaf.func6, Ybaf.ntmps6
  go_wp2_with fail
  refine (bufRead_end rb bb ub len cap k k _ a z eo w (unhide HR) hlen (by omega) (by omega) n3 n4 m2 hg).mono ?_
  rintro e w2 ⟨rfl, g1, g3⟩
  have j3 := g3.cell l3 (by simp; exact ⟨n11, n12, n13⟩)
  have jg := g3.cell hg (by simp; exact ⟨m1, m2, m3⟩)
  have jl := g3.bk (unhide HL) (by simp; exact ⟨n11, n12, n13⟩)
  have jh := g3.bk (unhide HH) (by simp; exact ⟨n14, n15, n16⟩)
  have jo : Own w2 base lv len z := (unhide HO).keep g3 (fun g hg' => by
    have := ((unhide HO).lt g hg').1
    simp only [List.mem_cons, List.not_mem_nil, or_false, not_or]
    exact ⟨by omega, by omega, by omega⟩)
  have hs2 := g3.size
  have G1 := hide g1
  have G3 := hide g3
  have JL := hide jl
  have JH := hide jh
  have JO := hide jo
  clear g1 g3 jl jh jo l0 l1 l2 l3 hg HR HL HH HO
  go_wp2_with fail
  go_region_held3 (fun w' => w'.cell? ⟨lb, 26, none⟩ = some (.iface 25 (.pointer (some ⟨hb, 0, none⟩)))) (simp [*])
    ((go_at_call 40
      refine (write_any hb pb base len 0 k lv z ds _ (by exact unhide JH) (by exact unhide JO) (fun j hj => absurd hj (Nat.not_lt_zero _)) (by omega) (by first | omega | (simp; omega)) hhb).mono ?_
      rintro e w3 ⟨lv', rfl, f1, f2, f3, f4⟩
      have hlbS : lb ∉ hb :: lv.ownBlock.toList := by
        simp only [List.mem_cons, Option.mem_toList, not_or]
        exact ⟨n19, fun hq => by have := ((unhide JO).lt lb hq).1; omega⟩
      have i3 := f3.cell (show w2.drew.cell? ⟨lb, 26, none⟩ = _ from j3) hlbS
      have il := f3.bk (show Bk w2.drew lb _ 39 from unhide JL) hlbS
      have ig := f3.cell (show w2.drew.cell? ⟨0, 0, none⟩ = _ from jg) (by
        simp only [List.mem_cons, Option.mem_toList, not_or]
        exact ⟨m4, fun hq => by have := ((unhide JO).lt 0 hq).1; omega⟩)))
  have f2' : RD w3 rb bb ub a len cap z len := (unhide G1).keep (show Fr _ w2 w3 from ((Fr.refl _ w2).of_heap (w'' := w2.drew) rfl rfl rfl rfl).trans f3) (by
      simp only [List.mem_cons, Option.mem_toList, not_or]
      exact ⟨fun h => n14 h.symm, fun hq => by have := ((unhide JO).lt _ hq).1; omega⟩) (by
      simp only [List.mem_cons, Option.mem_toList, not_or]
      exact ⟨fun h => n15 h.symm, fun hq => by have := ((unhide JO).lt _ hq).1; omega⟩) (by
      simp only [List.mem_cons, Option.mem_toList, not_or]
      exact ⟨fun h => n16 h.symm, fun hq => by have := ((unhide JO).lt _ hq).1; omega⟩)
  have hF3 : Fr (rb :: bb :: ub :: pb :: hb :: lb :: lv.ownBlock.toList) w w3 := (((unhide G3).wide (T := rb :: bb :: ub :: pb :: hb :: lb :: lv.ownBlock.toList) (mem3 _ _ _ _ _ _ _)).of_heap (w'' := w2.drew) rfl rfl rfl rfl).trans (f3.wide (mem2 _ _ _ _ _ _ _))
  have f4' : lv'.ownBlock = lv.ownBlock ∨ ∃ g, lv'.ownBlock = some g ∧ w.heap.size ≤ g := by
    rcases f4 with f | f
    · exact .inl f
    · exact .inr ⟨_, f, by simpa using hs2⟩
  have c22 : w3.cell? ⟨lb, 22, none⟩ = some (.int .i64 left) := (lrd_cells il hids).2.1
  have z22 := il.frozen 22
  have hwr : IntKind.i64.wrap (left : Int) = (left : Int) := by
    simp only [IntKind.wrap_i64]
    omega
  have hwr2 : IntKind.i64.wrap ((left : Int) - 0) = (left : Int) := by
    simp only [IntKind.wrap_i64]
    omega
  have hF4 : Hid (Fr [lb] w3 (w3.setCell ⟨lb, 22, none⟩ (.int .i64 left))) := (Fr.refl [lb] w3).set (by simp) 22 _
  have F1 : Hid (Bk (w3.setCell ⟨lb, 22, none⟩ (.int .i64 left)) hb (hs lv' ds) 27) := f1.setOther _ _ n19
  have F2 : Hid (Own (w3.setCell ⟨lb, 22, none⟩ (.int .i64 left)) base lv' len z) := Own.keep (show Own w3 base lv' len z from f2) (unhide hF4) (by
    intro g hq
    have := (f2.lt g hq).1
    simp; omega)
  have F2' : Hid (RD (w3.setCell ⟨lb, 22, none⟩ (.int .i64 left)) rb bb ub a len cap z len) := f2'.keep (unhide hF4) (by simp; exact fun h => n11 h.symm) (by simp; exact fun h => n12 h.symm) (by simp; exact fun h => n13 h.symm)
  have IL : Hid (Bk (w3.setCell ⟨lb, 22, none⟩ (.int .i64 left)) lb (lrd ids size left bb hb) 39) := by
    have hb1 := il.set 22 (.int .i64 (left : Int))
    rwa [lrd_left _ _ _ _ _ _ hids] at hb1
  have HF3 : Hid (Fr (rb :: bb :: ub :: pb :: hb :: lb :: lv.ownBlock.toList) w (w3.setCell ⟨lb, 22, none⟩ (.int .i64 left))) := hF3.set (by simp) 22 _
  have F4 := hide f4'
  have GG : Hid ((w3.setCell ⟨lb, 22, none⟩ (.int .i64 left)).cell? ⟨0, 0, none⟩ = some (.iface 65 (.pointer (some eo)))) := (unhide hF4).cell ig (by simp; exact m5)
  have CC := hide c22
  clear f1 f2 f2' hF3 f4 f4' f3 hlbS il
  go_wp2_with fail
  clear hF4
  generalize w3.setCell ⟨lb, 22, none⟩ (.int .i64 left) = W4 at F1 F2 F2' IL HF3 GG ⊢
  obtain ⟨t0, t1, _, _, _⟩ := lrd_cells (unhide IL) hids
  have hsl : IntKind.i64.wrap (size - (left : Int)) = size - (left : Int) := by
    simp only [IntKind.wrap_i64]
    omega
  clear i3 ig c22 z22 hwr hwr2 CC j3 jg
  go_region_held3 (fun w' => w'.cell? ⟨lb, 21, none⟩ = some (.int .i64 size) ∧ w'.cell? ⟨lb, 22, none⟩ = some (.int .i64 left)) (simp [*, World.cell?_alloc_some])
    ((go_at_call 11
      refine (errorf1 (size - left) size W4.heap.size (W4.drew.alloc (.cells #[.iface 2 (.int .i64 (size - left)), .iface 2 (.int .i64 size)] 20)) (by exact (Bk.fresh W4.drew _ 20).cell 0) (by exact (Bk.fresh W4.drew _ 20).cell 1)).mono ?_
      rintro e w5 ⟨v, rfl, kk, s, rfl, hkk, hbk, hbl⟩
      have t0' := (Fr.of_below (S := []) hbl).cell (cell_alloc (show W4.drew.cell? ⟨lb, 21, none⟩ = _ from t0) _) (by simp)
      have t1' := (Fr.of_below (S := []) hbl).cell (cell_alloc (show W4.drew.cell? ⟨lb, 22, none⟩ = _ from t1) _) (by simp)))
  have hF5 : Fr [] W4 w5 := (((Fr.refl [] W4).of_heap (w'' := W4.drew) rfl rfl rfl rfl).alloc _).trans (Fr.of_below hbl)
  have HF5 := hide hF5
  have HBK := hide hbk
  have hsz4 := (unhide HF3).size
  have HKK : Hid (w.heap.size ≤ kk) := by
    simp only [World.size_alloc] at hkk
    have hdd : W4.drew.heap.size = W4.heap.size := rfl
    show w.heap.size ≤ kk
    omega
  clear hF5 hbk hbl hkk t0 t1 t0' t1'
  go_wp2_with fail
  go_ret2
  refine ⟨_, lv', rfl, ⟨kk, s, rfl, unhide HKK, unhide HBK⟩, (unhide F2').keep (unhide HF5) (by simp) (by simp) (by simp), (unhide HF5).bk (unhide IL) (by simp), (unhide HF5).bk (unhide F1) (by simp), (unhide F2).keep (unhide HF5) (by simp), (unhide HF3).trans ((unhide HF5).wide (by simp)), unhide F4⟩

end Go.Proofs.YbulkdcecFmt
