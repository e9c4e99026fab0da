/-
  (*bytes.Reader).Read (45) by its contracts.
-/
import Derived.Test.YbulkdcecFmtBase
import Derived.Deep.QuietTactic
import Derived.BigQuiet
import Derived.Deep.RegionHeld3
namespace Go.Proofs.YbulkdcecFmt
open Go.RowKit Go.Extern.Stop Go.Stop Go.Extern
set_option linter.unusedVariables false
set_option linter.unusedSimpArgs false

/-- copy as one step of a region that draws its order: the destination's block alone has turned. -/
theorem step_copy {P : Program} {ops : Array Oper} {o : Oper} {a : Act} {w : World} {K : Act → World → Prop} {Q : Exit → Act → World → Prop} {E : Prop} (hgd : o.guard = none) (d s : Operand) (dT sT : TypeId)
    (ho : o.op = .call { callee := .builtin .copy, args := #[d, s], argTypes := #[dT, sT] }) (elem : TypeId) (hu : P.underlying dT = some (.slice elem)) (hsz : (P.info? elem).map (·.size) = some 1)
    (g off dLen dCap : Nat) (ad : Addr) (sLen sCap : Nat) (hd : a.eval d = .slice (some ⟨g, off, none⟩) dLen dCap) (hs : a.eval s = .slice (some ad) sLen sCap)
    (cur : List Value) (t : TypeId) (hg : Bk w g cur.toArray t) (cs : List Value) (hn : cs.length = Nat.min sLen dLen)
    (hsrc : ∀ j v, cs[j]? = some v → w.cell? (ad.add j) = some v) (hfit : off + cs.length ≤ cur.length) (h1 : ∀ v ∈ cs, v.oneCell' = true)
    (h : ∀ w', Hid (Bk w' g (splice cur off cs).toArray t) → Hid (Fr [g] w w') → K (a.put o.dst (goInt cs.length)) w') :
    if Region.wanted o (yielded ops a.tmps) = true then Oper.wp P o a w K Q else E := by
  have hw : Region.wanted o (yielded ops a.tmps) = true := by simp [Region.wanted, hgd]
  rw [if_pos hw]
  have hrun := run_copy_row (P := P) w dT sT o.type elem g off dLen dCap ad sLen sCap cur.toArray t cs hu hsz hg hn hsrc (by simpa using hfit) h1
  unfold Oper.wp
  simp [execOp, ho, resolve, invoke, builtin, hd, hs, hrun, Result.andThen]
  exact h _ (show _ = _ by simpa [splice] using setRow_heap w g _ _ t _ hg) ⟨rfl, rfl, rfl, by simp [World.setRow], fun k _ hk => setRow_other w g k _ (by simpa using hk)⟩

theorem cell_set_off (w : World) (b i j : Nat) (v : Value) (h : i ≠ j) : (w.setCell ⟨b, i, none⟩ v).cell? ⟨b, j, none⟩ = w.cell? ⟨b, j, none⟩ :=
  World.cell?_setCell_other (h := fun e => h (congrArg Addr.off e)) ..
theorem add_at (xb xo k : Nat) : (⟨xb, xo, none⟩ : Addr).add k = ⟨xb, xo + k, none⟩ := by
  by_cases h : k = 0
  · subst h; simp [Addr.add]
  · simp [Addr.add, h]

/-- A bytes.Reader's three cells. -/
def rdr (a : Option Addr) (len cap : Nat) (i : Nat) (pr : Int) : Array Value := #[.slice a len cap, .int .i64 i, .int .i64 pr]
theorem rdr_cells {w : World} {b : Nat} {a : Option Addr} {len cap i : Nat} {pr : Int} (h : Bk w b (rdr a len cap i pr) 53) :
    w.cell? ⟨b, 0, none⟩ = some (.slice a len cap) ∧ w.cell? ⟨b, 1, none⟩ = some (.int .i64 i) ∧ w.cell? ⟨b, 2, none⟩ = some (.int .i64 pr) := ⟨h.cell 0, h.cell 1, h.cell 2⟩

set_option maxHeartbeats 400000 in
theorem bread_eof (rb : Nat) (a : Option Addr) (len cap : Nat) (pr : Int) (p : Value) (eo : Addr) (w : World) (hb : Bk w rb (rdr a len cap len pr) 53) (hlen : len ≤ 1024)
    (hg : w.cell? ⟨0, 0, none⟩ = some (.iface 65 (.pointer (some eo)))) :
    Calls Ybaf.prog 45 #[.pointer (some ⟨rb, 0, none⟩), p] w fun e w' => e = .returned (.tuple #[.int .i64 0, .iface 65 (.pointer (some eo))]) ∧ Fr [] w w' := by
  obtain ⟨c0, c1, c2⟩ := rdr_cells hb
  clear hb
  have hd : decide ((len : Int) ≤ (len : Int)) = true := by simp
  go_enter Ybaf.func45, Ybaf.ntmps45
  go_wp2_with fail
  go_quiet (fail)
  go_wp2_with fail
  go_quiet (fail)
  go_wp2_with fail
  go_ret2
  exact ⟨rfl, ((Fr.refl _ _).drewN _).drewN _⟩

set_option maxHeartbeats 1000000 in
theorem bread_ok (rb gb b o len cap i m c : Nat) (T : TypeId) (pr : Int) (z : Nat → Int) (cur : List Value) (w : World)
    (hb : Bk w rb (rdr (some ⟨b, o, none⟩) len cap i pr) 53) (hi : i < len) (hlc : len ≤ cap) (hlen : len ≤ 1024) (hp : Bk w gb cur.toArray T) (hm : m ≤ cur.length) (hm1 : 1 ≤ m)
    (hz : ∀ j, j < len → w.cell? ⟨b, o + j, none⟩ = some (.int .u8 (z j))) (n1 : gb ≠ rb) (n2 : b ≠ rb) (n3 : b ≠ gb) :
    Calls Ybaf.prog 45 #[.pointer (some ⟨rb, 0, none⟩), .slice (some ⟨gb, 0, none⟩) m c] w fun e w' => ∃ n, n = min m (len - i) ∧ e = .returned (.tuple #[.int .i64 n, .nilIface]) ∧
      Bk w' rb (rdr (some ⟨b, o, none⟩) len cap (i + n) (-1)) 53 ∧ Bk w' gb (splice cur 0 (bts z i n)).toArray T ∧ Fr [rb, gb] w w' := by
  obtain ⟨c0, c1, c2⟩ := rdr_cells hb
  have f1 := hb.frozen 1
  have f2 := hb.frozen 2
  have HB := hide hb
  have HP := hide hp
  have HZ := hide hz
  clear hb hp hz
  have hd : decide ((len : Int) ≤ (i : Int)) = false := by simp; omega
  have hiI : (i : Int) ≤ (len : Int) := by omega
  have hcI : (len : Int) ≤ (cap : Int) := by omega
  have hci : ¬ cap = i := by omega
  go_enter Ybaf.func45, Ybaf.ntmps45
  go_wp2_with fail
  go_quiet (fail)
  go_wp2_with fail
  have hb1 : Bk ((w.drewN nq).setCell ⟨rb, 2, none⟩ (.int .i64 (-1))) rb (rdr (some ⟨b, o, none⟩) len cap i (-1)) 53 := (unhide HB).set 2 _
  have hp1 : Bk ((w.drewN nq).setCell ⟨rb, 2, none⟩ (.int .i64 (-1))) gb cur.toArray T := (unhide HP).setOther 2 _ (fun h => n1 h.symm)
  have hf1 : Fr [rb, gb] w ((w.drewN nq).setCell ⟨rb, 2, none⟩ (.int .i64 (-1))) := ((Fr.refl _ _).drewN nq).set (by simp) 2 _
  have hz1 : ∀ j, j < len → ((w.drewN nq).setCell ⟨rb, 2, none⟩ (.int .i64 (-1))).cell? ⟨b, o + j, none⟩ = some (.int .u8 (z j)) := fun j hj => hf1.cell (unhide HZ j hj) (by simp [n2, n3])
  generalize (w.drewN nq).setCell ⟨rb, 2, none⟩ (.int .i64 (-1)) = W1 at hb1 hp1 hf1 hz1 ⊢
  clear c0 c1 c2 f1 f2 HB HP HZ
  obtain ⟨c0, c1, c2⟩ := rdr_cells hb1
  have HB := hide hb1
  have HP := hide hp1
  have HZ := hide hz1
  have HF := hide hf1
  clear hb1 hp1 hz1 hf1
  obtain ⟨n, hn⟩ : ∃ n, n = min m (len - i) := ⟨_, rfl⟩
  have hnm : n ≤ m := by omega
  have hnl : n ≤ len - i := by omega
  have HN := hide hn
  have HL : Hid ((bts z i n).length = Nat.min (len - i) m) := by rw [bts_length, hn]; exact Nat.min_comm _ _
  have HI : Hid (0 + (bts z i n).length ≤ cur.length) := by rw [bts_length]; exact (by omega : 0 + n ≤ cur.length)
  have HS : Hid (∀ j v, (bts z i n)[j]? = some v → W1.cell? ((⟨b, o + i, none⟩ : Addr).add j) = some v) := by
    intro j v hv
    have hj : j < n := by
      have := (List.getElem?_eq_some_iff.1 hv).1
      rwa [bts_length] at this
    rw [bts_get z i n j hj] at hv
    cases hv
    rw [add_at, Nat.add_assoc]
    exact unhide HZ (i + j) (by omega)
  clear hn HZ
  have hlb : (bts z i n).length = n := bts_length z i n
  go_region_held3 (fun w' => w'.cell? ⟨rb, 0, none⟩ = some (.slice (some ⟨b, o, none⟩) len cap) ∧ w'.cell? ⟨rb, 1, none⟩ = some (.int .i64 i)) (go_keep)
    ((refine step_copy rfl (.tmp 20) (.tmp 29) 22 22 rfl 5 Ybaf.underlying22 (by kernel_rfl) gb 0 m c ⟨b, o + i, none⟩ (len - i) (cap - i) (by simp [Act.eval, Act.put]) (by simp [Act.eval, Act.put]) cur T (by exact unhide HP) (bts z i n) (unhide HL) (by exact unhide HS) (unhide HI) (bts_one _ _ _) ?_
      rw [hlb]
      intro w4 hp4 hf4
      have k0 := (unhide hf4).cell (show W1.drew.cell? ⟨rb, 0, none⟩ = some (.slice (some ⟨b, o, none⟩) len cap) from c0) (by simp; exact fun h => n1 h.symm)
      have k1 := (unhide hf4).cell (show W1.drew.cell? ⟨rb, 1, none⟩ = some (.int .i64 i) from c1) (by simp; exact fun h => n1 h.symm)))
  have hb4 : Bk w4 rb (rdr (some ⟨b, o, none⟩) len cap i (-1)) 53 := (unhide hf4).bk (show Bk W1.drew rb _ 53 from unhide HB) (by simp; exact fun h => n1 h.symm)
  have q1 := hb4.frozen 1
  have hiN : (i : Int) + (n : Int) ≤ 1024 := by omega
  have HB4 := hide hb4
  clear hb4
  go_wp2_with fail
  go_ret2
  refine ⟨n, unhide HN, rfl, ?_, (unhide hp4).setOther 1 _ (fun h => n1 h.symm), ?_⟩
  · have h := (unhide HB4).set 1 (.int .i64 ((i : Int) + n))
    rw [show (i : Int) + (n : Int) = ((i + n : Nat) : Int) from by omega] at h ⊢
    exact h
  · exact ((unhide HF).trans (((Fr.refl [rb, gb] W1).of_heap (w'' := W1.drew) rfl rfl rfl rfl).trans ((unhide hf4).wide (by simp)))).set (by simp) 1 _

end Go.Proofs.YbulkdcecFmt
