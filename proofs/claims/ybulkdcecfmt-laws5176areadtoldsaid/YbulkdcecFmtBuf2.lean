/-
  (*bufio.Reader).Read (10) by its contracts, further: the buffer is empty.
-/
import Derived.Test.YbulkdcecFmtBuf
import Derived.Test.YbulkdcecFmtMeth
namespace Go.Proofs.YbulkdcecFmt
open Go.RowKit Go.Extern.Stop Go.Stop Go.Extern
set_option linter.unusedVariables false
set_option linter.unusedSimpArgs false
attribute [local go_sem] m_bread

set_option maxHeartbeats 1000000 in
/-- The buffer is empty, p is short, there are data: the buffer is filled, then p out of it. -/
theorem bufRead_C (rb bb ub pb b o len cap i r m c : Nat) (T : TypeId) (pr lb lr : Int) (z : Nat → Int) (cs ps : List Value) (w : World)
    (hr : Bk w rb (rdr (some ⟨b, o, none⟩) len cap i pr) 53) (hi : i < len) (hlc : len ≤ cap) (hlen : len ≤ 1024)
    (hb : Bk w bb (bfr ub rb r r .nilIface lb lr) 50) (hu : Bk w ub cs.toArray 5) (hcs : cs.length = 16)
    (hz : ∀ j, j < len → w.cell? ⟨b, o + j, none⟩ = some (.int .u8 (z j))) (hp : Bk w pb ps.toArray T) (hm : m ≤ ps.length) (hm1 : 1 ≤ m) (hm2 : m < 16)
    (n1 : pb ≠ bb) (n2 : pb ≠ ub) (n3 : bb ≠ ub) (n4 : rb ≠ bb) (n5 : rb ≠ ub) (n6 : rb ≠ pb) (n7 : b ≠ rb) (n8 : b ≠ bb) (n9 : b ≠ ub) (n10 : b ≠ pb) :
    Calls Ybaf.prog 10 #[.pointer (some ⟨bb, 0, none⟩), .slice (some ⟨pb, 0, none⟩) m c] w fun e w' => ∃ f n lb' cs', f = min 16 (len - i) ∧ n = min m f ∧ e = .returned (.tuple #[.int .i64 n, .nilIface]) ∧
      Bk w' rb (rdr (some ⟨b, o, none⟩) len cap (i + f) (-1)) 53 ∧ Bk w' bb (bfr ub rb n f .nilIface lb' (-1)) 50 ∧ cs' = splice cs 0 (bts z i f) ∧ Bk w' ub cs'.toArray 5 ∧ Bk w' pb (splice ps 0 (bts z i n)).toArray T ∧ Fr [rb, bb, ub, pb] w w' := by
  obtain ⟨c0, c1, c2, c3, c4, c5, c6⟩ := bfr_cells hb
  have f2 := hb.frozen 2
  have f3 := hb.frozen 3
  have HR := hide hr
  have HB := hide hb
  have HP := hide hp
  have HU := hide hu
  have HZ := hide hz
  clear hb hp hz hu hr
  have hm0 : ((m : Int) == 0) = false := by simp; omega
  have hm16 : ¬ (16 : Int) ≤ (m : Int) := by omega
  go_enter Ybaf.func10, Ybaf.ntmps10
  go_wp2_with fail
  go_quiet (fail)
  go_wp2_with fail
  have hb1 : Bk (((w.drewN nq).setCell ⟨bb, 2, none⟩ (.int .i64 0)).setCell ⟨bb, 3, none⟩ (.int .i64 0)) bb (bfr ub rb 0 0 .nilIface lb lr) 50 := ((unhide HB).set 2 _).set 3 _
  have hr1 : Bk (((w.drewN nq).setCell ⟨bb, 2, none⟩ (.int .i64 0)).setCell ⟨bb, 3, none⟩ (.int .i64 0)) rb (rdr (some ⟨b, o, none⟩) len cap i pr) 53 := ((unhide HR).setOther 2 _ (fun h => n4 h.symm)).setOther 3 _ (fun h => n4 h.symm)
  have hp1 : Bk (((w.drewN nq).setCell ⟨bb, 2, none⟩ (.int .i64 0)).setCell ⟨bb, 3, none⟩ (.int .i64 0)) pb ps.toArray T := ((unhide HP).setOther 2 _ (fun h => n1 h.symm)).setOther 3 _ (fun h => n1 h.symm)
  have hu1 : Bk (((w.drewN nq).setCell ⟨bb, 2, none⟩ (.int .i64 0)).setCell ⟨bb, 3, none⟩ (.int .i64 0)) ub cs.toArray 5 := ((unhide HU).setOther 2 _ n3).setOther 3 _ n3
  have hf1 : Fr [rb, bb, ub, pb] w (((w.drewN nq).setCell ⟨bb, 2, none⟩ (.int .i64 0)).setCell ⟨bb, 3, none⟩ (.int .i64 0)) := (((Fr.refl _ _).drewN nq).set (by simp) 2 _).set (by simp) 3 _
  have hz1 : ∀ j, j < len → (((w.drewN nq).setCell ⟨bb, 2, none⟩ (.int .i64 0)).setCell ⟨bb, 3, none⟩ (.int .i64 0)).cell? ⟨b, o + j, none⟩ = some (.int .u8 (z j)) := fun j hj => hf1.cell (unhide HZ j hj) (by simp [n7, n8, n9, n10])
  generalize ((w.drewN nq).setCell ⟨bb, 2, none⟩ (.int .i64 0)).setCell ⟨bb, 3, none⟩ (.int .i64 0) = W1 at hb1 hr1 hp1 hu1 hf1 hz1 ⊢
  clear c0 c1 c2 c3 c4 c5 c6 f2 f3 HB HP HU HR HZ
  obtain ⟨c0, c1, c2, c3, c4, c5, c6⟩ := bfr_cells hb1
  have f4 := hb1.frozen 4
  have HB := hide hb1
  have HR := hide hr1
  have HP := hide hp1
  have HU := hide hu1
  have HF := hide hf1
  have HZ := hide hz1
  clear hb1 hr1 hp1 hu1 hf1 hz1
  go_region_held3 (fun w' => w'.cell? ⟨bb, 0, none⟩ = some (.slice (some ⟨ub, 0, none⟩) 16 16) ∧ w'.cell? ⟨bb, 1, none⟩ = some (.iface 32 (.pointer (some ⟨rb, 0, none⟩))))
    (simp [*, World.cell?_alloc_some, World.cell?_setCell_far, cell_set_off])
    ((go_at_call 45
      refine (bread_ok rb ub b o len cap i 16 16 5 pr z cs _ (by exact unhide HR) hi hlc hlen (by exact unhide HU) (by omega) (by omega) (by exact unhide HZ) (fun h => n5 h.symm) n7 n9).mono ?_
      rintro e w2 ⟨f, hf, rfl, hr2, hu2, hf2⟩
      have hb2 : Bk w2 bb (bfr ub rb 0 0 .nilIface lb lr) 50 := hf2.bk (show Bk W1.drew bb _ 50 from unhide HB) (by simp; exact ⟨fun h => n4 h.symm, n3⟩)
      obtain ⟨k0, k1, k2, k3, k4, k5, k6⟩ := bfr_cells hb2
      have k7 := hb2.frozen 4
      have hf16 : f ≤ 16 := by omega
      have hfl : f ≤ len - i := by omega
      have hf0 : 1 ≤ f := by omega
      have HFm := hide hf
      clear hf))
  have hb3 : Bk (w2.setCell ⟨bb, 4, none⟩ .nilIface) bb (bfr ub rb 0 0 .nilIface lb lr) 50 := hb2.set 4 _
  have hr3 : Bk (w2.setCell ⟨bb, 4, none⟩ .nilIface) rb (rdr (some ⟨b, o, none⟩) len cap (i + f) (-1)) 53 := hr2.setOther 4 _ (fun h => n4 h.symm)
  have hu3 : Bk (w2.setCell ⟨bb, 4, none⟩ .nilIface) ub (splice cs 0 (bts z i f)).toArray 5 := hu2.setOther 4 _ n3
  have hp3 : Bk (w2.setCell ⟨bb, 4, none⟩ .nilIface) pb ps.toArray T := (hf2.bk (show Bk W1.drew pb _ T from unhide HP) (by simp; exact ⟨fun h => n6 h.symm, n2⟩)).setOther 4 _ (fun h => n1 h.symm)
  have hf3 : Fr [rb, bb, ub, pb] w (w2.setCell ⟨bb, 4, none⟩ .nilIface) := ((unhide HF).trans (((Fr.refl _ W1).of_heap (w'' := W1.drew) rfl rfl rfl rfl).trans (hf2.wide (by simp)))).set (by simp) 4 _
  generalize w2.setCell ⟨bb, 4, none⟩ .nilIface = W3 at hb3 hr3 hu3 hp3 hf3 ⊢
  clear hb2 hr2 hu2 hf2 k0 k1 k2 k3 k4 k5 k6 k7 HB HR HP HU HF HZ c0 c1 c2 c3 c4 c5 c6 f4
  obtain ⟨c0, c1, c2, c3, c4, c5, c6⟩ := bfr_cells hb3
  have q3 := hb3.frozen 3
  have HB := hide hb3
  have HR := hide hr3
  have HP := hide hp3
  have HU := hide hu3
  have HF := hide hf3
  clear hb3 hr3 hp3 hu3 hf3
  have hfz : ((f : Int) == 0) = false := by simp; omega
  go_wp2_with fail
  have hb4 : Bk (W3.setCell ⟨bb, 3, none⟩ (.int .i64 f)) bb (bfr ub rb 0 f .nilIface lb lr) 50 := (unhide HB).set 3 _
  have hr4 : Bk (W3.setCell ⟨bb, 3, none⟩ (.int .i64 f)) rb (rdr (some ⟨b, o, none⟩) len cap (i + f) (-1)) 53 := (unhide HR).setOther 3 _ (fun h => n4 h.symm)
  have hu4 : Bk (W3.setCell ⟨bb, 3, none⟩ (.int .i64 f)) ub (splice cs 0 (bts z i f)).toArray 5 := (unhide HU).setOther 3 _ n3
  have hp4 : Bk (W3.setCell ⟨bb, 3, none⟩ (.int .i64 f)) pb ps.toArray T := (unhide HP).setOther 3 _ (fun h => n1 h.symm)
  have hf4 : Fr [rb, bb, ub, pb] w (W3.setCell ⟨bb, 3, none⟩ (.int .i64 f)) := (unhide HF).set (by simp) 3 _
  generalize W3.setCell ⟨bb, 3, none⟩ (.int .i64 f) = W4 at hb4 hr4 hu4 hp4 hf4 ⊢
  clear HB HR HP HU HF c0 c1 c2 c3 c4 c5 c6 q3
  obtain ⟨c0, c1, c2, c3, c4, c5, c6⟩ := bfr_cells hb4
  have HB := hide hb4
  have HR := hide hr4
  have HP := hide hp4
  have HU := hide hu4
  have HF := hide hf4
  clear hb4 hr4 hp4 hu4 hf4
  obtain ⟨n, hn⟩ : ∃ n, n = min m f := ⟨_, rfl⟩
  have hn1 : 1 ≤ n := by omega
  have hnm : n ≤ m := by omega
  have hnl : n ≤ f := by omega
  have HN := hide hn
  have HL : Hid ((bts z i n).length = Nat.min f m) := by rw [bts_length, hn]; exact Nat.min_comm _ _
  have HI : Hid (0 + (bts z i n).length ≤ ps.length) := by rw [bts_length]; exact (by omega : 0 + n ≤ ps.length)
  have hsp : ∀ j, j < f → (splice cs 0 (bts z i f))[j]? = some (.int .u8 (z (i + j))) := by
    intro j hj
    simp only [splice, List.take_zero, List.nil_append]
    rw [List.getElem?_append_left (by rw [bts_length]; exact hj)]
    exact bts_get z i f j hj
  have HS : Hid (∀ j v, (bts z i n)[j]? = some v → W4.cell? ((⟨ub, 0, none⟩ : Addr).add j) = some v) := by
    intro j v hv
    have hj : j < n := by
      have := (List.getElem?_eq_some_iff.1 hv).1
      rwa [bts_length] at this
    rw [bts_get z i n j hj] at hv
    cases hv
    rw [add_at, Nat.zero_add, (unhide HU).cell]
    simpa using hsp j (by omega)
  have hlast : W4.cell? ⟨ub, n - 1, none⟩ = some (.int .u8 (z (i + (n - 1)))) := by
    rw [(unhide HU).cell]
    simpa using hsp (n - 1) (by omega)
  clear hn hsp
  have hlb : (bts z i n).length = n := bts_length z i n
  have hfI : (f : Int) ≤ 16 := by omega
  go_region_held3 (fun w' => w'.cell? ⟨bb, 0, none⟩ = some (.slice (some ⟨ub, 0, none⟩) 16 16) ∧ w'.cell? ⟨bb, 2, none⟩ = some (.int .i64 0) ∧ w'.cell? ⟨bb, 3, none⟩ = some (.int .i64 f)) (go_keep)
    ((refine step_copy rfl (.tmp 109) (.tmp 122) 22 22 rfl 5 Ybaf.underlying22 (by kernel_rfl) pb 0 m c ⟨ub, 0, none⟩ f 16 (by simp [Act.eval, Act.put]) (by simp [Act.eval, Act.put]) ps T (by exact unhide HP) (bts z i n) (unhide HL) (by exact unhide HS) (unhide HI) (bts_one _ _ _) ?_
      rw [hlb]
      intro w5 hp5 hf5
      have k0 := (unhide hf5).cell (show W4.drew.cell? ⟨bb, 0, none⟩ = some (.slice (some ⟨ub, 0, none⟩) 16 16) from c0) (by simp; exact fun h => n1 h.symm)
      have k1 := (unhide hf5).cell (show W4.drew.cell? ⟨bb, 2, none⟩ = some (.int .i64 0) from c2) (by simp; exact fun h => n1 h.symm)
      have k2 := (unhide hf5).cell (show W4.drew.cell? ⟨bb, 3, none⟩ = some (.int .i64 f) from c3) (by simp; exact fun h => n1 h.symm)))
  have hb5 : Bk w5 bb (bfr ub rb 0 f .nilIface lb lr) 50 := (unhide hf5).bk (show Bk W4.drew bb _ 50 from unhide HB) (by simp; exact fun h => n1 h.symm)
  have hr5 : Bk w5 rb (rdr (some ⟨b, o, none⟩) len cap (i + f) (-1)) 53 := (unhide hf5).bk (show Bk W4.drew rb _ 53 from unhide HR) (by simp; exact n6)
  have hu5 : Bk w5 ub (splice cs 0 (bts z i f)).toArray 5 := (unhide hf5).bk (show Bk W4.drew ub _ 5 from unhide HU) (by simp; exact fun h => n2 h.symm)
  have hlast5 := (unhide hf5).cell (show W4.drew.cell? ⟨ub, n - 1, none⟩ = _ from hlast) (by simp; exact fun h => n2 h.symm)
  have HF5 : Hid (Fr [rb, bb, ub, pb] w w5) := (unhide HF).trans (((Fr.refl _ W4).of_heap (w'' := W4.drew) rfl rfl rfl rfl).trans ((unhide hf5).wide (by simp)))
  have q2 := hb5.frozen 2
  have HB5 := hide hb5
  have HR5 := hide hr5
  have HU5 := hide hu5
  clear hb5 hr5 hu5 c0 c1 c2 c3 c4 c5 c6 hlast HF HS HP HU HB HR
  go_wp2_with fail
  obtain ⟨k, hk⟩ : ∃ k, k = n - 1 := ⟨_, rfl⟩
  have hkI : (n : Int) = (k : Int) + 1 := by omega
  rw [← hk] at hlast5
  have hb6 : Bk (w5.setCell ⟨bb, 2, none⟩ (.int .i64 n)) bb (bfr ub rb n f .nilIface lb lr) 50 := (unhide HB5).set 2 _
  have hr6 : Bk (w5.setCell ⟨bb, 2, none⟩ (.int .i64 n)) rb (rdr (some ⟨b, o, none⟩) len cap (i + f) (-1)) 53 := (unhide HR5).setOther 2 _ (fun h => n4 h.symm)
  have hu6 : Bk (w5.setCell ⟨bb, 2, none⟩ (.int .i64 n)) ub (splice cs 0 (bts z i f)).toArray 5 := (unhide HU5).setOther 2 _ n3
  have hp6 : Bk (w5.setCell ⟨bb, 2, none⟩ (.int .i64 n)) pb (splice ps 0 (bts z i n)).toArray T := (unhide hp5).setOther 2 _ (fun h => n1 h.symm)
  have hf6 : Fr [rb, bb, ub, pb] w (w5.setCell ⟨bb, 2, none⟩ (.int .i64 n)) := (unhide HF5).set (by simp) 2 _
  have hl6 : (w5.setCell ⟨bb, 2, none⟩ (.int .i64 n)).cell? ⟨ub, k, none⟩ = some (.int .u8 (z (i + k))) :=
    ((Fr.refl [bb] w5).set (by simp) 2 _).cell hlast5 (by simp; exact fun h => n3 h.symm)
  generalize w5.setCell ⟨bb, 2, none⟩ (.int .i64 n) = W6 at hb6 hr6 hu6 hp6 hf6 hl6 ⊢
  clear k0 k1 k2 hlast5 HB5 HR5 HU5 HF5 hp5 hf5 q2
  obtain ⟨c0, c1, c2, c3, c4, c5, c6⟩ := bfr_cells hb6
  have c2' : W6.cell? ⟨bb, 2, none⟩ = some (.int .i64 ((k : Int) + 1)) := by rw [← hkI]; exact c2
  clear c2 c1 c3 c4
  have f5 := hb6.frozen 5
  have f6 := hb6.frozen 6
  have hi1 : (k : Int) < 16 := by omega
  have hw1 : IntKind.i64.wrap (k : Int) = (k : Int) := by rw [IntKind.wrap_i64]; omega
  have HB := hide hb6
  have HR := hide hr6
  have HU := hide hu6
  have HP := hide hp6
  have HF := hide hf6
  have HK := hide hk
  clear hb6 hr6 hu6 hp6 hf6 hk hkI
  go_region_held3 (fun w' => w'.cell? ⟨bb, 0, none⟩ = some (.slice (some ⟨ub, 0, none⟩) 16 16) ∧ w'.cell? ⟨bb, 2, none⟩ = some (.int .i64 ((k : Int) + 1)) ∧ w'.cell? ⟨ub, k, none⟩ = some (.int .u8 (z (i + k)))) (simp [*, World.cell?_alloc_some, World.cell?_setCell_far, cell_set_off]) (fail)
  go_wp2_with fail
  go_ret2
  refine ⟨f, n, wrap64 (z (i + k)), _, unhide HFm, unhide HN, rfl, ((unhide HR).setOther 5 _ (fun h => n4 h.symm)).setOther 6 _ (fun h => n4 h.symm), ((unhide HB).set 5 _).set 6 _, rfl, ((unhide HU).setOther 5 _ n3).setOther 6 _ n3, ((unhide HP).setOther 5 _ (fun h => n1 h.symm)).setOther 6 _ (fun h => n1 h.symm), ?_⟩
  exact (((unhide HF).set (by simp) 5 _).set (by simp) 6 _).of_heap rfl rfl rfl rfl

end Go.Proofs.YbulkdcecFmt
