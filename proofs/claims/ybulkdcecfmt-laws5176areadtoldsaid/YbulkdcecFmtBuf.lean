/-
  (*bufio.Reader).readErr (15) and (*bufio.Reader).Read (10) by their contracts.
-/
import Derived.Test.YbulkdcecFmtBread
namespace Go.Proofs.YbulkdcecFmt
open Go.RowKit Go.Extern.Stop Go.Stop Go.Extern
set_option linter.unusedVariables false
set_option linter.unusedSimpArgs false

/-- A bufio.Reader's seven cells: its buffer lies in block ub, it reads from the bytes.Reader in block rb. -/
def bfr (ub rb : Nat) (r wr : Nat) (er : Value) (lb lr : Int) : Array Value :=
  #[.slice (some ⟨ub, 0, none⟩) 16 16, .iface 32 (.pointer (some ⟨rb, 0, none⟩)), .int .i64 r, .int .i64 wr, er, .int .i64 lb, .int .i64 lr]
theorem bfr_cells {w : World} {b ub rb r wr : Nat} {er : Value} {lb lr : Int} (h : Bk w b (bfr ub rb r wr er lb lr) 50) :
    w.cell? ⟨b, 0, none⟩ = some (.slice (some ⟨ub, 0, none⟩) 16 16) ∧ w.cell? ⟨b, 1, none⟩ = some (.iface 32 (.pointer (some ⟨rb, 0, none⟩))) ∧ w.cell? ⟨b, 2, none⟩ = some (.int .i64 r) ∧
    w.cell? ⟨b, 3, none⟩ = some (.int .i64 wr) ∧ w.cell? ⟨b, 4, none⟩ = some er ∧ w.cell? ⟨b, 5, none⟩ = some (.int .i64 lb) ∧ w.cell? ⟨b, 6, none⟩ = some (.int .i64 lr) :=
  ⟨h.cell 0, h.cell 1, h.cell 2, h.cell 3, h.cell 4, h.cell 5, h.cell 6⟩

/-- The two readers stand at place pos of the data z (of len bytes). -/
def RD (w : World) (rb bb ub : Nat) (a : Option Addr) (len cap : Nat) (z : Nat → Int) (pos : Nat) : Prop :=
  ∃ (i r wr : Nat) (pr lb lr : Int) (cs : List Value), Bk w rb (rdr a len cap i pr) 53 ∧ Bk w bb (bfr ub rb r wr .nilIface lb lr) 50 ∧ Bk w ub cs.toArray 5 ∧ cs.length = 16 ∧
    r ≤ wr ∧ wr ≤ 16 ∧ i ≤ len ∧ pos + (wr - r) = i ∧ ∀ j, j < wr - r → cs[r + j]? = some (.int .u8 (z (pos + j)))

theorem RD.keep {w w' : World} {S : List Nat} {rb bb ub : Nat} {a : Option Addr} {len cap : Nat} {z : Nat → Int} {pos : Nat} (h : RD w rb bb ub a len cap z pos) (hf : Fr S w w') (h1 : rb ∉ S) (h2 : bb ∉ S) (h3 : ub ∉ S) : RD w' rb bb ub a len cap z pos := by
  obtain ⟨i, r, wr, pr, lb, lr, cs, g1, g2, g3, rest⟩ := h
  exact ⟨i, r, wr, pr, lb, lr, cs, hf.bk g1 h1, hf.bk g2 h2, hf.bk g3 h3, rest⟩

theorem readErr_any (bb ub rb r wr : Nat) (er : Value) (u : TypeId) (uv : Value) (lb lr : Int) (w : World) (her : er = .nilIface ∨ er = .iface u uv) (hb : Bk w bb (bfr ub rb r wr er lb lr) 50) :
    Calls Ybaf.prog 15 #[.pointer (some ⟨bb, 0, none⟩)] w fun e w' => e = .returned er ∧ Bk w' bb (bfr ub rb r wr .nilIface lb lr) 50 ∧ Fr [bb] w w' := by
  obtain ⟨c0, c1, c2, c3, c4, c5, c6⟩ := bfr_cells hb
  have f4 := hb.frozen 4
  have HB := hide hb
  clear hb
  rcases her with rfl | rfl
  all_goals
    go_enter Ybaf.func15, Ybaf.ntmps15
    go_wp2_with fail
    go_ret
    exact ⟨rfl, (unhide HB).set 4 _, (Fr.refl _ _).set (by simp) 4 _⟩

set_option maxHeartbeats 1000000 in
/-- There are bytes in the buffer. -/
theorem bufRead_A (rb bb ub pb r wr m c : Nat) (T : TypeId) (lb lr : Int) (z : Nat → Int) (pos : Nat) (cs ps : List Value) (w : World)
    (hb : Bk w bb (bfr ub rb r wr .nilIface lb lr) 50) (hu : Bk w ub cs.toArray 5) (hcs : cs.length = 16) (hr : r < wr) (hw : wr ≤ 16)
    (hz : ∀ j, j < wr - r → cs[r + j]? = some (.int .u8 (z (pos + j)))) (hp : Bk w pb ps.toArray T) (hm : m ≤ ps.length) (hm1 : 1 ≤ m) (hm2 : m ≤ 1000) (n1 : pb ≠ bb) (n2 : pb ≠ ub) (n3 : bb ≠ ub) :
    Calls Ybaf.prog 10 #[.pointer (some ⟨bb, 0, none⟩), .slice (some ⟨pb, 0, none⟩) m c] w fun e w' => ∃ n lb', n = min m (wr - r) ∧ e = .returned (.tuple #[.int .i64 n, .nilIface]) ∧
      Bk w' bb (bfr ub rb (r + n) wr .nilIface lb' (-1)) 50 ∧ Bk w' pb (splice ps 0 (bts z pos n)).toArray T ∧ Fr [bb, pb] w w' := by
  obtain ⟨c0, c1, c2, c3, c4, c5, c6⟩ := bfr_cells hb
  have HB := hide hb
  have HP := hide hp
  have HU := hide hu
  have HZ := hide hz
  clear hb hp hz hu
  have hm0 : ((m : Int) == 0) = false := by simp; omega
  have hrw : ((r : Int) == (wr : Int)) = false := by simp; omega
  have hrI : (r : Int) ≤ (wr : Int) := by omega
  have hwI : (wr : Int) ≤ 16 := by omega
  have hr16 : ¬ 16 = r := by omega
  go_enter Ybaf.func10, Ybaf.ntmps10
  go_wp2_with fail
  go_quiet (fail)
  go_wp2_with fail
  have hb1 : Bk (w.drewN nq) bb (bfr ub rb r wr .nilIface lb lr) 50 := unhide HB
  have hp1 : Bk (w.drewN nq) pb ps.toArray T := unhide HP
  have hu1 : Bk (w.drewN nq) ub cs.toArray 5 := unhide HU
  have hf1 : Fr [bb, pb] w (w.drewN nq) := (Fr.refl _ _).drewN nq
  generalize w.drewN nq = W1 at hb1 hp1 hu1 hf1 ⊢
  clear c0 c1 c2 c3 c4 c5 c6 HB HP HU
  obtain ⟨c0, c1, c2, c3, c4, c5, c6⟩ := bfr_cells hb1
  have HB := hide hb1
  have HP := hide hp1
  have HU := hide hu1
  have HF := hide hf1
  clear hb1 hp1 hu1 hf1
  obtain ⟨n, hn⟩ : ∃ n, n = min m (wr - r) := ⟨_, rfl⟩
  have hn1 : 1 ≤ n := by omega
  have hnm : n ≤ m := by omega
  have hnl : n ≤ wr - r := by omega
  have HN := hide hn
  have HL : Hid ((bts z pos n).length = Nat.min (wr - r) m) := by rw [bts_length, hn]; exact Nat.min_comm _ _
  have HI : Hid (0 + (bts z pos n).length ≤ ps.length) := by rw [bts_length]; exact (by omega : 0 + n ≤ ps.length)
  have HS : Hid (∀ j v, (bts z pos n)[j]? = some v → W1.cell? ((⟨ub, r, none⟩ : Addr).add j) = some v) := by
    intro j v hv
    have hj : j < n := by
      have := (List.getElem?_eq_some_iff.1 hv).1
      rwa [bts_length] at this
    rw [bts_get z pos n j hj] at hv
    cases hv
    rw [add_at, (unhide HU).cell]
    simpa using unhide HZ j (by omega)
  have hlast : W1.cell? ⟨ub, r + (n - 1), none⟩ = some (.int .u8 (z (pos + (n - 1)))) := by
    rw [(unhide HU).cell]
    simpa using unhide HZ (n - 1) (by omega)
  clear hn HZ
  have hlb : (bts z pos n).length = n := bts_length z pos n
  go_region_held3 (fun w' => w'.cell? ⟨bb, 0, none⟩ = some (.slice (some ⟨ub, 0, none⟩) 16 16) ∧ w'.cell? ⟨bb, 2, none⟩ = some (.int .i64 r) ∧ w'.cell? ⟨bb, 3, none⟩ = some (.int .i64 wr)) (go_keep)
    ((refine step_copy rfl (.tmp 109) (.tmp 122) 22 22 rfl 5 Ybaf.underlying22 (by kernel_rfl) pb 0 m c ⟨ub, r, none⟩ (wr - r) (16 - r) (by simp [Act.eval, Act.put]) (by simp [Act.eval, Act.put]) ps T (by exact unhide HP) (bts z pos n) (unhide HL) (by exact unhide HS) (unhide HI) (bts_one _ _ _) ?_
      rw [hlb]
      intro w4 hp4 hf4
      have k0 := (unhide hf4).cell (show W1.drew.cell? ⟨bb, 0, none⟩ = some (.slice (some ⟨ub, 0, none⟩) 16 16) from c0) (by simp; exact fun h => n1 h.symm)
      have k1 := (unhide hf4).cell (show W1.drew.cell? ⟨bb, 2, none⟩ = some (.int .i64 r) from c2) (by simp; exact fun h => n1 h.symm)
      have k2 := (unhide hf4).cell (show W1.drew.cell? ⟨bb, 3, none⟩ = some (.int .i64 wr) from c3) (by simp; exact fun h => n1 h.symm)))
  have hb4 : Bk w4 bb (bfr ub rb r wr .nilIface lb lr) 50 := (unhide hf4).bk (show Bk W1.drew bb _ 50 from unhide HB) (by simp; exact fun h => n1 h.symm)
  have hlast4 := (unhide hf4).cell (show W1.drew.cell? ⟨ub, r + (n - 1), none⟩ = _ from hlast) (by simp; exact fun h => n2 h.symm)
  have q2 := hb4.frozen 2
  have HB4 := hide hb4
  clear hb4 c0 c1 c2 c3 c4 c5 c6 hlast
  have hrn : (r : Int) + (n : Int) ≤ 16 := by omega
  go_wp2_with fail
  obtain ⟨k, hk⟩ : ∃ k, k = r + (n - 1) := ⟨_, rfl⟩
  have hkI : (r : Int) + (n : Int) = (k : Int) + 1 := by omega
  rw [hkI]
  rw [← hk] at hlast4
  have hb5 : Bk (w4.setCell ⟨bb, 2, none⟩ (.int .i64 ((k : Int) + 1))) bb (bfr ub rb (r + n) wr .nilIface lb lr) 50 := by
    have h := (unhide HB4).set 2 (.int .i64 ((k : Int) + 1))
    rw [show (k : Int) + 1 = ((r + n : Nat) : Int) from by omega] at h ⊢
    exact h
  have hp5 : Bk (w4.setCell ⟨bb, 2, none⟩ (.int .i64 ((k : Int) + 1))) pb (splice ps 0 (bts z pos n)).toArray T := (unhide hp4).setOther 2 _ (fun h => n1 h.symm)
  have hf5 : Fr [bb, pb] w (w4.setCell ⟨bb, 2, none⟩ (.int .i64 ((k : Int) + 1))) := ((unhide HF).trans (((Fr.refl [bb, pb] W1).of_heap (w'' := W1.drew) rfl rfl rfl rfl).trans ((unhide hf4).wide (by simp)))).set (by simp) 2 _
  have hl5 : (w4.setCell ⟨bb, 2, none⟩ (.int .i64 ((k : Int) + 1))).cell? ⟨ub, k, none⟩ = some (.int .u8 (z (pos + (n - 1)))) :=
    ((Fr.refl [bb] w4).set (by simp) 2 _).cell hlast4 (by simp; exact fun h => n3 h.symm)
  have hc5 : (w4.setCell ⟨bb, 2, none⟩ (.int .i64 ((k : Int) + 1))).cell? ⟨bb, 2, none⟩ = some (.int .i64 ((k : Int) + 1)) := by
    rw [hb5.cell 2, show (k : Int) + 1 = ((r + n : Nat) : Int) from by omega]; rfl
  generalize w4.setCell ⟨bb, 2, none⟩ (.int .i64 ((k : Int) + 1)) = W5 at hb5 hp5 hf5 hl5 hc5 ⊢
  clear k0 k1 k2 hlast4 HB4 hp4 hf4 HS HP HU HB HF q2
  obtain ⟨c0, c1, c2, c3, c4, c5, c6⟩ := bfr_cells hb5
  clear c2 c1 c3 c4 hkI
  have f5 := hb5.frozen 5
  have f6 := hb5.frozen 6
  have hi1 : (k : Int) < 16 := by omega
  have hw1 : IntKind.i64.wrap (k : Int) = (k : Int) := by rw [IntKind.wrap_i64]; omega
  have HB := hide hb5
  have HP := hide hp5
  have HF := hide hf5
  have HK := hide hk
  clear hb5 hp5 hf5 hk
  go_region_held3 (fun w' => w'.cell? ⟨bb, 0, none⟩ = some (.slice (some ⟨ub, 0, none⟩) 16 16) ∧ w'.cell? ⟨bb, 2, none⟩ = some (.int .i64 ((k : Int) + 1)) ∧ w'.cell? ⟨ub, k, none⟩ = some (.int .u8 (z (pos + (n - 1))))) (simp [*, World.cell?_alloc_some, World.cell?_setCell_far, cell_set_off]) (fail)
  go_wp2_with fail
  go_ret2
  refine ⟨n, wrap64 (z (pos + (n - 1))), unhide HN, rfl, ((unhide HB).set 5 _).set 6 _, ((unhide HP).setOther 5 _ (fun h => n1 h.symm)).setOther 6 _ (fun h => n1 h.symm), ?_⟩
  exact (((unhide HF).set (by simp) 5 _).set (by simp) 6 _).of_heap rfl rfl rfl rfl

end Go.Proofs.YbulkdcecFmt
