/-
  (*looseReader).Read (6) by its contracts.
-/
import Derived.Test.YbulkdcecFmtEnd4
namespace Go.Proofs.YbulkdcecFmt
open Go.RowKit Go.Extern.Stop Go.Stop Go.Extern
set_option linter.unusedVariables false
set_option linter.unusedSimpArgs false

theorem n_write (a : Addr) (w : World) : (nilAhead 195 25 (.pointer (some a)) "Write").run Ybaf.prog w = .ok (some false) w := by kernel_rfl

theorem lrd_left (ids : List Value) (size left x : Int) (bb hb : Nat) (h : ids.length = 20) : (lrd ids size left bb hb).setIfInBounds 22 (.int .i64 x) = lrd ids size x bb hb := by
  simp [lrd, List.set_append, h]

theorem mem4 (a b c d e f : Nat) (l : List Nat) : ∀ x, x ∈ [a, b, c, d] → x ∈ a :: b :: c :: d :: e :: f :: l := by
  intro x hx
  simp only [List.mem_cons, List.not_mem_nil, or_false] at hx ⊢
  rcases hx with h | h | h | h <;> simp [h]
theorem mem2 (a b c d e f : Nat) (l : List Nat) : ∀ x, x ∈ e :: l → x ∈ a :: b :: c :: d :: e :: f :: l := by
  intro x hx
  simp only [List.mem_cons] at hx ⊢
  rcases hx with h | h <;> simp [h]

attribute [local go_sem] eq_same eq_nil m_write n_write

theorem read_zero (lb : Nat) (p : Value) (Q : Value → World → Prop) (w : World) (hc : w.cell? ⟨lb, 22, none⟩ = some (.int .i64 0))
    (hE : Calls Ybaf.prog 9 #[.pointer (some ⟨lb, 0, none⟩)] w fun e w' => ∃ v, e = .returned v ∧ Q v w') :
    Calls Ybaf.prog 6 #[.pointer (some ⟨lb, 0, none⟩), p] w fun e w' => ∃ v, e = .returned (.tuple #[.int .i64 0, v]) ∧ Q v w' := by
  have HE := hide hE
  clear hE
  go_enter Ybaf.func6, Ybaf.ntmps6
  go_wp2_with fail
  refine (unhide HE).mono ?_
  rintro e w' ⟨v, rfl, hq⟩
  have HQ := hide hq
  clear hq
  go_wp2_with fail
  go_ret2
  exact ⟨v, rfl, unhide HQ⟩


set_option maxRecDepth 10000 in
set_option maxHeartbeats 1000000 in
theorem read_okT (rb bb ub hb lb pb b o len cap pos k left base : Nat) (T : TypeId) (z : Nat → Int) (ps ids ds : List Value) (size : Int) (lv : Value) (w : World)
    (h : RD w rb bb ub (some ⟨b, o, none⟩) len cap z pos) (hpos : pos < len) (hlc : len ≤ cap) (hlen : len ≤ 1024)
    (hz : ∀ j, j < len → w.cell? ⟨b, o + j, none⟩ = some (.int .u8 (z j))) (hp : Bk w pb ps.toArray T) (hk : ps.length = k) (hk1 : 1 ≤ k) (hk2 : k ≤ 40)
    (hlr : Bk w lb (lrd ids size left bb hb) 39) (hids : ids.length = 20) (hl1 : 1 ≤ left) (hl2 : left ≤ 2000) (hkl : left < k)
    (hh : Bk w hb (hs lv ds) 27) (hown : Own w base lv pos z) (hbase : base ≤ w.heap.size) (hhb : hb < base)
    (n1 : pb ≠ bb) (n2 : pb ≠ ub) (n3 : bb ≠ ub) (n4 : rb ≠ bb) (n5 : rb ≠ ub) (n6 : rb ≠ pb) (n7 : b ≠ rb) (n8 : b ≠ bb) (n9 : b ≠ ub) (n10 : b ≠ pb)
    (n11 : lb ≠ rb) (n12 : lb ≠ bb) (n13 : lb ≠ ub) (n14 : hb ≠ rb) (n15 : hb ≠ bb) (n16 : hb ≠ ub) (n17 : lb ≠ pb) (n18 : hb ≠ pb) (n19 : lb ≠ hb)
    (o1 : rb < base) (o2 : bb < base) (o3 : ub < base) (o4 : lb < base) (o5 : ∀ g, lv.ownBlock = some g → g ≠ pb)
    (eo : Addr) (m1 : 0 ≠ rb) (m2 : 0 ≠ bb) (m3 : 0 ≠ ub) (m4 : 0 ≠ hb) (m5 : 0 ≠ lb) (m6 : 0 ≠ pb) (m7 : 0 < base) (hg : w.cell? ⟨0, 0, none⟩ = some (.iface 65 (.pointer (some eo)))) :
    Calls Ybaf.prog 6 #[.pointer (some ⟨lb, 0, none⟩), .slice (some ⟨pb, 0, none⟩) k k] w fun e w' => ∃ n lv', 1 ≤ n ∧ n ≤ k ∧ n ≤ left ∧ pos + n ≤ len ∧ e = .returned (.tuple #[.int .i64 n, .nilIface]) ∧
      RD w' rb bb ub (some ⟨b, o, none⟩) len cap z (pos + n) ∧ (∀ j, j < n → w'.cell? ⟨pb, j, none⟩ = some (.int .u8 (z (pos + j)))) ∧ Bk w' lb (lrd ids size ((left - n : Nat) : Int) bb hb) 39 ∧
      Bk w' hb (hs lv' ds) 27 ∧ Own w' base lv' (pos + n) z ∧ Fr (rb :: bb :: ub :: pb :: hb :: lb :: lv.ownBlock.toList) w w' ∧ (lv'.ownBlock = lv.ownBlock ∨ ∃ g, lv'.ownBlock = some g ∧ w.heap.size ≤ g) := by
  obtain ⟨l0, l1, l2, l3, l4⟩ := lrd_cells hlr hids
  have HR := hide h
  have HZ := hide hz
  have HP := hide hp
  have HL := hide hlr
  have HH := hide hh
  have HO := hide hown
  have O5 := hide o5
  have hkl' : (k : Int) > (left : Int) := by omega
  have hl3 : ¬ ((left : Int) = 0) := by omega
  clear h hz hp hlr hh hown o5 l4
  go_enter Ybaf.func6, Ybaf.ntmps6
  go_wp2_with fail
  refine (bufRead_ok rb bb ub pb b o len cap pos left k T z ps w (unhide HR) hpos hlc hlen (unhide HZ) (unhide HP) (by omega) (by omega) (by omega) n1 n2 n3 n4 n5 n6 n7 n8 n9 n10).mono ?_
  rintro e w2 ⟨n, hn1, hn2, hn3, rfl, g1, g2, g3⟩
  have j3 := g3.cell l3 (by simp; exact ⟨n11, n12, n13, n17⟩)
  have jg := g3.cell hg (by simp; exact ⟨m1, m2, m3, m6⟩)
  have jl := g3.bk (unhide HL) (by simp; exact ⟨n11, n12, n13, n17⟩)
  have jh := g3.bk (unhide HH) (by simp; exact ⟨n14, n15, n16, n18⟩)
  have jo : Own w2 base lv pos z := (unhide HO).keep g3 (fun g hg' => by
    have := ((unhide HO).lt g hg').1
    have h2 := unhide O5 g hg'
    simp only [List.mem_cons, List.not_mem_nil, or_false, not_or]
    exact ⟨by omega, by omega, by omega, h2⟩)
  have js : ∀ j, j < n → w2.cell? ⟨pb, j, none⟩ = some (.int .u8 (z (pos + j))) := fun j hj => by
    rw [g2.cell]
    simpa using splice_get ps z pos n j hj
  have hs2 := g3.size
  have G1 := hide g1
  have G3 := hide g3
  have JL := hide jl
  have JH := hide jh
  have JO := hide jo
  have JS := hide js
  clear g1 g2 g3 jl jh jo js l0 l1 l2 l3 hg HR HZ HP HL HH HO
  have q1 : (0 : Int) ≤ (n : Int) := by omega
  have q2 : (n : Int) ≤ (k : Int) := by omega
  have q3 : n ≤ k := by omega
  go_wp2_with fail
  go_region_held3 (fun w' => w'.cell? ⟨lb, 26, none⟩ = some (.iface 25 (.pointer (some ⟨hb, 0, none⟩)))) (simp [*])
    ((go_at_call 40
      refine (write_any hb pb base pos n k lv z ds _ (by exact unhide JH) (by exact unhide JO) (by exact unhide JS) (by omega) (by first | omega | (simp; omega)) hhb).mono ?_
      rintro e w3 ⟨lv', rfl, f1, f2, f3, f4⟩
      have hlbS : lb ∉ hb :: lv.ownBlock.toList := by
        simp only [List.mem_cons, Option.mem_toList, not_or]
        exact ⟨n19, fun hq => by have := ((unhide JO).lt lb hq).1; omega⟩
      have i3 := f3.cell (show w2.drew.cell? ⟨lb, 26, none⟩ = _ from j3) hlbS
      have il := f3.bk (show Bk w2.drew lb _ 39 from unhide JL) hlbS
      have ig := f3.cell (show w2.drew.cell? ⟨0, 0, none⟩ = _ from jg) (by
        simp only [List.mem_cons, Option.mem_toList, not_or]
        exact ⟨m4, fun hq => by have := ((unhide JO).lt 0 hq).1; omega⟩)))
  have f2' : RD w3 rb bb ub (some ⟨b, o, none⟩) len cap z (pos + n) := (unhide G1).keep (show Fr _ w2 w3 from ((Fr.refl _ w2).of_heap (w'' := w2.drew) rfl rfl rfl rfl).trans f3) (by
      simp only [List.mem_cons, Option.mem_toList, not_or]
      exact ⟨fun h => n14 h.symm, fun hq => by have := ((unhide JO).lt _ hq).1; omega⟩) (by
      simp only [List.mem_cons, Option.mem_toList, not_or]
      exact ⟨fun h => n15 h.symm, fun hq => by have := ((unhide JO).lt _ hq).1; omega⟩) (by
      simp only [List.mem_cons, Option.mem_toList, not_or]
      exact ⟨fun h => n16 h.symm, fun hq => by have := ((unhide JO).lt _ hq).1; omega⟩)
  have fs : ∀ j, j < n → w3.cell? ⟨pb, j, none⟩ = some (.int .u8 (z (pos + j))) := fun j hj => f3.cell (show w2.drew.cell? ⟨pb, j, none⟩ = _ from unhide JS j hj) (by
      simp only [List.mem_cons, Option.mem_toList, not_or]
      exact ⟨fun h => n18 h.symm, fun hq => unhide O5 _ hq rfl⟩)
  have hF3 : Fr (rb :: bb :: ub :: pb :: hb :: lb :: lv.ownBlock.toList) w w3 := (((unhide G3).wide (T := rb :: bb :: ub :: pb :: hb :: lb :: lv.ownBlock.toList) (mem4 _ _ _ _ _ _ _)).of_heap (w'' := w2.drew) rfl rfl rfl rfl).trans (f3.wide (mem2 _ _ _ _ _ _ _))
  have f4' : lv'.ownBlock = lv.ownBlock ∨ ∃ g, lv'.ownBlock = some g ∧ w.heap.size ≤ g := by
    rcases f4 with f | f
    · exact .inl f
    · exact .inr ⟨_, f, by simpa using hs2⟩
  have c22 : w3.cell? ⟨lb, 22, none⟩ = some (.int .i64 left) := (lrd_cells il hids).2.1
  have z22 := il.frozen 22
  have hwr : IntKind.i64.wrap ((left : Int) - (n : Int)) = ((left - n : Nat) : Int) := by
    simp only [IntKind.wrap_i64]
    omega
  have IL := hide il
  have F1 := hide f1
  have F2 := hide f2
  have F2' := hide f2'
  have FS := hide fs
  have HF3 := hide hF3
  have F4 := hide f4'
  clear il f1 f2 f2' fs hF3 f4 f4' f3 hlbS
  go_wp2_with fail
  go_ret2
  refine ⟨n, lv', hn1, by omega, by omega, hn3, rfl, (unhide F2').keep ((Fr.refl [lb] w3).set (by simp) 22 _) (by simp; exact fun h => n11 h.symm) (by simp; exact fun h => n12 h.symm) (by simp; exact fun h => n13 h.symm), ?_, ?_, (unhide F1).setOther _ _ n19, (unhide F2).keep ((Fr.refl [lb] w3).set (by simp) 22 _) ?_, (unhide HF3).set (by simp) 22 _, unhide F4⟩
  · intro j hj
    exact ((Fr.refl [lb] w3).set (by simp) 22 _).cell (unhide FS j hj) (by simp; exact fun h => n17 h.symm)
  · have hb1 := (unhide IL).set 22 (.int .i64 ((left - n : Nat) : Int))
    rwa [lrd_left _ _ _ _ _ _ hids] at hb1
  · intro g hq
    have := ((unhide F2).lt g hq).1
    simp; omega

set_option maxRecDepth 10000 in
set_option maxHeartbeats 1000000 in
theorem read_okF (rb bb ub hb lb pb b o len cap pos k left base : Nat) (T : TypeId) (z : Nat → Int) (ps ids ds : List Value) (size : Int) (lv : Value) (w : World)
    (h : RD w rb bb ub (some ⟨b, o, none⟩) len cap z pos) (hpos : pos < len) (hlc : len ≤ cap) (hlen : len ≤ 1024)
    (hz : ∀ j, j < len → w.cell? ⟨b, o + j, none⟩ = some (.int .u8 (z j))) (hp : Bk w pb ps.toArray T) (hk : ps.length = k) (hk1 : 1 ≤ k) (hk2 : k ≤ 40)
    (hlr : Bk w lb (lrd ids size left bb hb) 39) (hids : ids.length = 20) (hl1 : 1 ≤ left) (hl2 : left ≤ 2000) (hkl : k ≤ left)
    (hh : Bk w hb (hs lv ds) 27) (hown : Own w base lv pos z) (hbase : base ≤ w.heap.size) (hhb : hb < base)
    (n1 : pb ≠ bb) (n2 : pb ≠ ub) (n3 : bb ≠ ub) (n4 : rb ≠ bb) (n5 : rb ≠ ub) (n6 : rb ≠ pb) (n7 : b ≠ rb) (n8 : b ≠ bb) (n9 : b ≠ ub) (n10 : b ≠ pb)
    (n11 : lb ≠ rb) (n12 : lb ≠ bb) (n13 : lb ≠ ub) (n14 : hb ≠ rb) (n15 : hb ≠ bb) (n16 : hb ≠ ub) (n17 : lb ≠ pb) (n18 : hb ≠ pb) (n19 : lb ≠ hb)
    (o1 : rb < base) (o2 : bb < base) (o3 : ub < base) (o4 : lb < base) (o5 : ∀ g, lv.ownBlock = some g → g ≠ pb)
    (eo : Addr) (m1 : 0 ≠ rb) (m2 : 0 ≠ bb) (m3 : 0 ≠ ub) (m4 : 0 ≠ hb) (m5 : 0 ≠ lb) (m6 : 0 ≠ pb) (m7 : 0 < base) (hg : w.cell? ⟨0, 0, none⟩ = some (.iface 65 (.pointer (some eo)))) :
    Calls Ybaf.prog 6 #[.pointer (some ⟨lb, 0, none⟩), .slice (some ⟨pb, 0, none⟩) k k] w fun e w' => ∃ n lv', 1 ≤ n ∧ n ≤ k ∧ n ≤ left ∧ pos + n ≤ len ∧ e = .returned (.tuple #[.int .i64 n, .nilIface]) ∧
      RD w' rb bb ub (some ⟨b, o, none⟩) len cap z (pos + n) ∧ (∀ j, j < n → w'.cell? ⟨pb, j, none⟩ = some (.int .u8 (z (pos + j)))) ∧ Bk w' lb (lrd ids size ((left - n : Nat) : Int) bb hb) 39 ∧
      Bk w' hb (hs lv' ds) 27 ∧ Own w' base lv' (pos + n) z ∧ Fr (rb :: bb :: ub :: pb :: hb :: lb :: lv.ownBlock.toList) w w' ∧ (lv'.ownBlock = lv.ownBlock ∨ ∃ g, lv'.ownBlock = some g ∧ w.heap.size ≤ g) := by
  obtain ⟨l0, l1, l2, l3, l4⟩ := lrd_cells hlr hids
  have HR := hide h
  have HZ := hide hz
  have HP := hide hp
  have HL := hide hlr
  have HH := hide hh
  have HO := hide hown
  have O5 := hide o5
  have hkl' : ¬ ((k : Int) > (left : Int)) := by omega
  have hl3 : ¬ ((left : Int) = 0) := by omega
  clear h hz hp hlr hh hown o5 l4
  go_enter Ybaf.func6, Ybaf.ntmps6
  go_wp2_with fail
  refine (bufRead_ok rb bb ub pb b o len cap pos k k T z ps w (unhide HR) hpos hlc hlen (unhide HZ) (unhide HP) (by omega) (by omega) (by omega) n1 n2 n3 n4 n5 n6 n7 n8 n9 n10).mono ?_
  rintro e w2 ⟨n, hn1, hn2, hn3, rfl, g1, g2, g3⟩
  have j3 := g3.cell l3 (by simp; exact ⟨n11, n12, n13, n17⟩)
  have jg := g3.cell hg (by simp; exact ⟨m1, m2, m3, m6⟩)
  have jl := g3.bk (unhide HL) (by simp; exact ⟨n11, n12, n13, n17⟩)
  have jh := g3.bk (unhide HH) (by simp; exact ⟨n14, n15, n16, n18⟩)
  have jo : Own w2 base lv pos z := (unhide HO).keep g3 (fun g hg' => by
    have := ((unhide HO).lt g hg').1
    have h2 := unhide O5 g hg'
    simp only [List.mem_cons, List.not_mem_nil, or_false, not_or]
    exact ⟨by omega, by omega, by omega, h2⟩)
  have js : ∀ j, j < n → w2.cell? ⟨pb, j, none⟩ = some (.int .u8 (z (pos + j))) := fun j hj => by
    rw [g2.cell]
    simpa using splice_get ps z pos n j hj
  have hs2 := g3.size
  have G1 := hide g1
  have G3 := hide g3
  have JL := hide jl
  have JH := hide jh
  have JO := hide jo
  have JS := hide js
  clear g1 g2 g3 jl jh jo js l0 l1 l2 l3 hg HR HZ HP HL HH HO
  have q1 : (0 : Int) ≤ (n : Int) := by omega
  have q2 : (n : Int) ≤ (k : Int) := by omega
  have q3 : n ≤ k := by omega
  go_wp2_with fail
  go_region_held3 (fun w' => w'.cell? ⟨lb, 26, none⟩ = some (.iface 25 (.pointer (some ⟨hb, 0, none⟩)))) (simp [*])
    ((go_at_call 40
      refine (write_any hb pb base pos n k lv z ds _ (by exact unhide JH) (by exact unhide JO) (by exact unhide JS) (by omega) (by first | omega | (simp; omega)) hhb).mono ?_
      rintro e w3 ⟨lv', rfl, f1, f2, f3, f4⟩
      have hlbS : lb ∉ hb :: lv.ownBlock.toList := by
        simp only [List.mem_cons, Option.mem_toList, not_or]
        exact ⟨n19, fun hq => by have := ((unhide JO).lt lb hq).1; omega⟩
      have i3 := f3.cell (show w2.drew.cell? ⟨lb, 26, none⟩ = _ from j3) hlbS
      have il := f3.bk (show Bk w2.drew lb _ 39 from unhide JL) hlbS
      have ig := f3.cell (show w2.drew.cell? ⟨0, 0, none⟩ = _ from jg) (by
        simp only [List.mem_cons, Option.mem_toList, not_or]
        exact ⟨m4, fun hq => by have := ((unhide JO).lt 0 hq).1; omega⟩)))
  have f2' : RD w3 rb bb ub (some ⟨b, o, none⟩) len cap z (pos + n) := (unhide G1).keep (show Fr _ w2 w3 from ((Fr.refl _ w2).of_heap (w'' := w2.drew) rfl rfl rfl rfl).trans f3) (by
      simp only [List.mem_cons, Option.mem_toList, not_or]
      exact ⟨fun h => n14 h.symm, fun hq => by have := ((unhide JO).lt _ hq).1; omega⟩) (by
      simp only [List.mem_cons, Option.mem_toList, not_or]
      exact ⟨fun h => n15 h.symm, fun hq => by have := ((unhide JO).lt _ hq).1; omega⟩) (by
      simp only [List.mem_cons, Option.mem_toList, not_or]
      exact ⟨fun h => n16 h.symm, fun hq => by have := ((unhide JO).lt _ hq).1; omega⟩)
  have fs : ∀ j, j < n → w3.cell? ⟨pb, j, none⟩ = some (.int .u8 (z (pos + j))) := fun j hj => f3.cell (show w2.drew.cell? ⟨pb, j, none⟩ = _ from unhide JS j hj) (by
      simp only [List.mem_cons, Option.mem_toList, not_or]
      exact ⟨fun h => n18 h.symm, fun hq => unhide O5 _ hq rfl⟩)
  have hF3 : Fr (rb :: bb :: ub :: pb :: hb :: lb :: lv.ownBlock.toList) w w3 := (((unhide G3).wide (T := rb :: bb :: ub :: pb :: hb :: lb :: lv.ownBlock.toList) (mem4 _ _ _ _ _ _ _)).of_heap (w'' := w2.drew) rfl rfl rfl rfl).trans (f3.wide (mem2 _ _ _ _ _ _ _))
  have f4' : lv'.ownBlock = lv.ownBlock ∨ ∃ g, lv'.ownBlock = some g ∧ w.heap.size ≤ g := by
    rcases f4 with f | f
    · exact .inl f
    · exact .inr ⟨_, f, by simpa using hs2⟩
  have c22 : w3.cell? ⟨lb, 22, none⟩ = some (.int .i64 left) := (lrd_cells il hids).2.1
  have z22 := il.frozen 22
  have hwr : IntKind.i64.wrap ((left : Int) - (n : Int)) = ((left - n : Nat) : Int) := by
    simp only [IntKind.wrap_i64]
    omega
  have IL := hide il
  have F1 := hide f1
  have F2 := hide f2
  have F2' := hide f2'
  have FS := hide fs
  have HF3 := hide hF3
  have F4 := hide f4'
  clear il f1 f2 f2' fs hF3 f4 f4' f3 hlbS
  go_wp2_with fail
  go_ret2
  refine ⟨n, lv', hn1, by omega, by omega, hn3, rfl, (unhide F2').keep ((Fr.refl [lb] w3).set (by simp) 22 _) (by simp; exact fun h => n11 h.symm) (by simp; exact fun h => n12 h.symm) (by simp; exact fun h => n13 h.symm), ?_, ?_, (unhide F1).setOther _ _ n19, (unhide F2).keep ((Fr.refl [lb] w3).set (by simp) 22 _) ?_, (unhide HF3).set (by simp) 22 _, unhide F4⟩
  · intro j hj
    exact ((Fr.refl [lb] w3).set (by simp) 22 _).cell (unhide FS j hj) (by simp; exact fun h => n17 h.symm)
  · have hb1 := (unhide IL).set 22 (.int .i64 ((left - n : Nat) : Int))
    rwa [lrd_left _ _ _ _ _ _ hids] at hb1
  · intro g hq
    have := ((unhide F2).lt g hq).1
    simp; omega

end Go.Proofs.YbulkdcecFmt
