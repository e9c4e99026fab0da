/-
  (*looseReader).Read (6) where nothing more is handed out: one contract for the four ways.
-/
import Derived.Test.YbulkdcecFmtMade
namespace Go.Proofs.YbulkdcecFmt
open Go.RowKit Go.Extern.Stop Go.Stop Go.Extern
set_option linter.unusedVariables false
set_option linter.unusedSimpArgs false

/-- What the error is: io.EOF, or a new one. -/
def ErrIs (w w' : World) (eo : Addr) (good : Prop) (p : Addr) : Prop := (good → p = eo) ∧ (¬ good → ∃ s, w.heap.size ≤ p.block ∧ Bk w' p.block #[.string s] 67)

theorem memR (a b c d e f : Nat) (l : List Nat) : ∀ x, x ∈ [a, b, c] → x ∈ a :: b :: c :: d :: e :: f :: l := mem3 a b c d e f l

theorem read_stop (rb bb ub hb lb pb len cap pos k size base : Nat) (a : Option Addr) (z : Nat → Int) (xs ys : List Int) (lv : Value) (w : World)
    (h : RD w rb bb ub a len cap z pos) (hlen : len ≤ 1024) (hlc : len ≤ cap) (hk1 : 1 ≤ k) (hk2 : k ≤ 40) (hpl : pos ≤ len) (hps : pos ≤ size) (hst : pos = len ∨ pos = size) (hs2 : size ≤ 255)
    (hz : pos < len → ∃ b o, a = some ⟨b, o, none⟩ ∧ (∀ j, j < len → w.cell? ⟨b, o + j, none⟩ = some (.int .u8 (z j))) ∧ b ≠ rb ∧ b ≠ bb ∧ b ≠ ub)
    (hlr : Bk w lb (lrd (u8s ys) size ((size - pos : Nat) : Int) bb hb) 39) (hx : InU8 xs) (lx : xs.length = 20) (hy : InU8 ys) (ly : ys.length = 20)
    (hh : Bk w hb (hs lv (u8s xs)) 27) (hown : Own w base lv pos z) (hbase : base ≤ w.heap.size) (hhb : hb < base) (hpb : pb < w.heap.size)
    (n3 : bb ≠ ub) (n4 : rb ≠ bb) (n5 : rb ≠ ub)
    (n11 : lb ≠ rb) (n12 : lb ≠ bb) (n13 : lb ≠ ub) (n14 : hb ≠ rb) (n15 : hb ≠ bb) (n16 : hb ≠ ub) (n19 : lb ≠ hb)
    (o1 : rb < base) (o2 : bb < base) (o3 : ub < base) (o4 : lb < base)
    (eo : Addr) (m1 : 0 ≠ rb) (m2 : 0 ≠ bb) (m3 : 0 ≠ ub) (m4 : 0 ≠ hb) (m5 : 0 ≠ lb) (m7 : 0 < base) (hg : w.cell? ⟨0, 0, none⟩ = some (.iface 65 (.pointer (some eo)))) :
    Calls Ybaf.prog 6 #[.pointer (some ⟨lb, 0, none⟩), .slice (some ⟨pb, 0, none⟩) k k] w fun e w' => ∃ p lv', e = .returned (.tuple #[.int .i64 0, .iface 65 (.pointer (some p))]) ∧
      ErrIs w w' eo (size = len ∧ xs = ys) p ∧ Bk w' lb (lrd (u8s ys) size ((size - pos : Nat) : Int) bb hb) 39 ∧
      Bk w' hb (hs lv' (u8s xs)) 27 ∧ Own w' base lv' pos z ∧ Fr (rb :: bb :: ub :: pb :: hb :: lb :: lv.ownBlock.toList) w w' ∧ (lv'.ownBlock = lv.ownBlock ∨ ∃ g, lv'.ownBlock = some g ∧ w.heap.size ≤ g) := by
  have HZ := hide hz
  clear hz
  have lys : (u8s ys).length = 20 := by rw [u8s_length]; exact ly
  have keepO : ∀ w', Fr [rb, bb, ub] w w' → Own w' base lv pos z := fun w' hf => hown.keep hf (fun g hq => by
    have := (hown.lt g hq).1
    simp only [List.mem_cons, List.not_mem_nil, or_false, not_or]
    exact ⟨by omega, by omega, by omega⟩)
  have keepH : ∀ w', Fr [rb, bb, ub] w w' → Bk w' hb (hs lv (u8s xs)) 27 := fun w' hf => hf.bk hh (by simp; exact ⟨n14, n15, n16⟩)
  have keepL : ∀ w', Fr [rb, bb, ub] w w' → Bk w' lb (lrd (u8s ys) size ((size - pos : Nat) : Int) bb hb) 39 := fun w' hf => hf.bk hlr (by simp; exact ⟨n11, n12, n13⟩)
  by_cases hlt : pos < size
  · obtain rfl : pos = len := by omega
    have hfin : ∀ (e : Ending) (w' : World), (∃ (v lv' : Value), e = .returned (.tuple #[.int .i64 0, v]) ∧
      (∃ g s, v = .iface 65 (.pointer (some ⟨g, 0, none⟩)) ∧ w.heap.size ≤ g ∧ Bk w' g #[.string s] 67) ∧
      RD w' rb bb ub a pos cap z pos ∧ Bk w' lb (lrd (u8s ys) size ((size - pos : Nat) : Int) bb hb) 39 ∧
      Bk w' hb (hs lv' (u8s xs)) 27 ∧ Own w' base lv' pos z ∧ Fr (rb :: bb :: ub :: pb :: hb :: lb :: lv.ownBlock.toList) w w' ∧ (lv'.ownBlock = lv.ownBlock ∨ ∃ g, lv'.ownBlock = some g ∧ w.heap.size ≤ g)) →
      ∃ p lv', e = .returned (.tuple #[.int .i64 0, .iface 65 (.pointer (some p))]) ∧
      ErrIs w w' eo (size = pos ∧ xs = ys) p ∧ Bk w' lb (lrd (u8s ys) size ((size - pos : Nat) : Int) bb hb) 39 ∧
      Bk w' hb (hs lv' (u8s xs)) 27 ∧ Own w' base lv' pos z ∧ Fr (rb :: bb :: ub :: pb :: hb :: lb :: lv.ownBlock.toList) w w' ∧ (lv'.ownBlock = lv.ownBlock ∨ ∃ g, lv'.ownBlock = some g ∧ w.heap.size ≤ g) := by
      rintro e w' ⟨v, lv', rfl, ⟨g, s, rfl, q1, q2⟩, q3, q4, q5, q6, q7, q8⟩
      exact ⟨_, lv', rfl, ⟨fun hgd => by omega, fun _ => ⟨s, q1, q2⟩⟩, q4, q5, q6, q7, q8⟩
    by_cases hkl : size - pos < k
    · exact (read_shortT rb bb ub hb lb pb pos cap k (size - pos) base a z (u8s ys) (u8s xs) size lv w h hlen hk1 hk2 hlr lys (by omega) (by omega) hkl (by omega) (by omega) hh hown hbase hhb hpb n3 n4 n5 n11 n12 n13 n14 n15 n16 n19 o1 o2 o3 o4 eo m1 m2 m3 m4 m5 m7 hg).mono (fun e w' q => hfin e w' q)
    · exact (read_shortF rb bb ub hb lb pb pos cap k (size - pos) base a z (u8s ys) (u8s xs) size lv w h hlen hk1 hk2 hlr lys (by omega) (by omega) (by omega) (by omega) (by omega) hh hown hbase hhb hpb n3 n4 n5 n11 n12 n13 n14 n15 n16 n19 o1 o2 o3 o4 eo m1 m2 m3 m4 m5 m7 hg).mono (fun e w' q => hfin e w' q)
  · obtain rfl : pos = size := by omega
    have hlr0 : Bk w lb (lrd (u8s ys) pos 0 bb hb) 39 := by
      rw [Nat.sub_self] at hlr
      exact hlr
    have c22 : w.cell? ⟨lb, 22, none⟩ = some (.int .i64 0) := (lrd_cells hlr0 lys).2.1
    by_cases hpos : pos < len
    · obtain ⟨b, o, rfl, hzc, b1, b2, b3⟩ := unhide HZ hpos
      refine (read_zero lb _ (fun v w' => ∃ kk s, v = .iface 65 (.pointer (some ⟨kk, 0, none⟩)) ∧ w.heap.size ≤ kk ∧ Bk w' kk #[.string s] 67 ∧ Fr [rb, bb, ub] w w') w c22 (end_past rb bb ub hb lb b o len cap pos z (u8s ys) pos w hlr0 lys h hpos hlc hlen hzc n3 n4 n5 b1 b2 b3 n11 n12 n13)).mono ?_
      rintro e w' ⟨v, rfl, kk, s, rfl, q1, q2, q3⟩
      exact ⟨_, lv, rfl, ⟨fun hgd => by omega, fun _ => ⟨s, q1, q2⟩⟩, keepL w' q3, keepH w' q3, keepO w' q3, q3.wide (memR _ _ _ _ _ _ _), .inl rfl⟩
    · obtain rfl : pos = len := by omega
      by_cases hxy : xs = ys
      · subst hxy
        refine (read_zero lb _ (fun v w' => v = .iface 65 (.pointer (some eo)) ∧ Fr [rb, bb, ub] w w') w c22 ((end_same rb bb ub hb lb pos cap a z xs lv eo pos w hlr0 hx lx hh h hlen hg n3 n4 n5 n11 n12 n13 n14 n15 n16 m1 m2 m3).mono (fun e w' q => ⟨_, q.1, rfl, q.2⟩))).mono ?_
        rintro e w' ⟨v, rfl, rfl, q3⟩
        exact ⟨_, lv, rfl, ⟨fun _ => rfl, fun hn => absurd ⟨rfl, rfl⟩ hn⟩, keepL w' q3, keepH w' q3, keepO w' q3, q3.wide (memR _ _ _ _ _ _ _), .inl rfl⟩
      · refine (read_zero lb _ (fun v w' => ∃ kk s, v = .iface 65 (.pointer (some ⟨kk, 0, none⟩)) ∧ w.heap.size ≤ kk ∧ Bk w' kk #[.string s] 67 ∧ Fr [rb, bb, ub] w w') w c22 (end_diff rb bb ub hb lb pos cap a z xs ys lv eo pos w hlr0 hx lx hy ly hxy hh h hlen hg n3 n4 n5 n11 n12 n13 n14 n15 n16 m1 m2 m3)).mono ?_
        rintro e w' ⟨v, rfl, kk, s, rfl, q1, q2, q3⟩
        exact ⟨_, lv, rfl, ⟨fun hgd => absurd hgd.2 hxy, fun _ => ⟨s, q1, q2⟩⟩, keepL w' q3, keepH w' q3, keepO w' q3, q3.wide (memR _ _ _ _ _ _ _), .inl rfl⟩

/-- The same for a round that hands bytes out, whatever the buffer's length against what is left. -/
theorem read_ok (rb bb ub hb lb pb b o len cap pos k left base : Nat) (T : TypeId) (z : Nat → Int) (ps ids ds : List Value) (size : Int) (lv : Value) (w : World)
    (h : RD w rb bb ub (some ⟨b, o, none⟩) len cap z pos) (hpos : pos < len) (hlc : len ≤ cap) (hlen : len ≤ 1024)
    (hz : ∀ j, j < len → w.cell? ⟨b, o + j, none⟩ = some (.int .u8 (z j))) (hp : Bk w pb ps.toArray T) (hk : ps.length = k) (hk1 : 1 ≤ k) (hk2 : k ≤ 40)
    (hlr : Bk w lb (lrd ids size left bb hb) 39) (hids : ids.length = 20) (hl1 : 1 ≤ left) (hl2 : left ≤ 2000)
    (hh : Bk w hb (hs lv ds) 27) (hown : Own w base lv pos z) (hbase : base ≤ w.heap.size) (hhb : hb < base)
    (n1 : pb ≠ bb) (n2 : pb ≠ ub) (n3 : bb ≠ ub) (n4 : rb ≠ bb) (n5 : rb ≠ ub) (n6 : rb ≠ pb) (n7 : b ≠ rb) (n8 : b ≠ bb) (n9 : b ≠ ub) (n10 : b ≠ pb)
    (n11 : lb ≠ rb) (n12 : lb ≠ bb) (n13 : lb ≠ ub) (n14 : hb ≠ rb) (n15 : hb ≠ bb) (n16 : hb ≠ ub) (n17 : lb ≠ pb) (n18 : hb ≠ pb) (n19 : lb ≠ hb)
    (o1 : rb < base) (o2 : bb < base) (o3 : ub < base) (o4 : lb < base) (o5 : ∀ g, lv.ownBlock = some g → g ≠ pb)
    (eo : Addr) (m1 : 0 ≠ rb) (m2 : 0 ≠ bb) (m3 : 0 ≠ ub) (m4 : 0 ≠ hb) (m5 : 0 ≠ lb) (m6 : 0 ≠ pb) (m7 : 0 < base) (hg : w.cell? ⟨0, 0, none⟩ = some (.iface 65 (.pointer (some eo)))) :
    Calls Ybaf.prog 6 #[.pointer (some ⟨lb, 0, none⟩), .slice (some ⟨pb, 0, none⟩) k k] w fun e w' => ∃ n lv', 1 ≤ n ∧ n ≤ k ∧ n ≤ left ∧ pos + n ≤ len ∧ e = .returned (.tuple #[.int .i64 n, .nilIface]) ∧
      RD w' rb bb ub (some ⟨b, o, none⟩) len cap z (pos + n) ∧ (∀ j, j < n → w'.cell? ⟨pb, j, none⟩ = some (.int .u8 (z (pos + j)))) ∧ Bk w' lb (lrd ids size ((left - n : Nat) : Int) bb hb) 39 ∧
      Bk w' hb (hs lv' ds) 27 ∧ Own w' base lv' (pos + n) z ∧ Fr (rb :: bb :: ub :: pb :: hb :: lb :: lv.ownBlock.toList) w w' ∧ (lv'.ownBlock = lv.ownBlock ∨ ∃ g, lv'.ownBlock = some g ∧ w.heap.size ≤ g) := by
  by_cases hkl : left < k
  · exact read_okT rb bb ub hb lb pb b o len cap pos k left base T z ps ids ds size lv w h hpos hlc hlen hz hp hk hk1 hk2 hlr hids hl1 hl2 hkl hh hown hbase hhb n1 n2 n3 n4 n5 n6 n7 n8 n9 n10 n11 n12 n13 n14 n15 n16 n17 n18 n19 o1 o2 o3 o4 o5 eo m1 m2 m3 m4 m5 m6 m7 hg
  · exact read_okF rb bb ub hb lb pb b o len cap pos k left base T z ps ids ds size lv w h hpos hlc hlen hz hp hk hk1 hk2 hlr hids hl1 hl2 (by omega) hh hown hbase hhb n1 n2 n3 n4 n5 n6 n7 n8 n9 n10 n11 n12 n13 n14 n15 n16 n17 n18 n19 o1 o2 o3 o4 o5 eo m1 m2 m3 m4 m5 m6 m7 hg

end Go.Proofs.YbulkdcecFmt
