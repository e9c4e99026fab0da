/-
  LawS5176ARead (3): the walk at match = true, chunk sizes given.
-/
import Derived.Test.YbulkdcecFmtLaw
namespace Go.Proofs.YbulkdcecFmt
open Go.RowKit Go.Extern.Stop Go.Stop Go.Extern
set_option linter.unusedVariables false
set_option linter.unusedSimpArgs false
attribute [local go_sem] eq_same eq_nil neq_same

set_option maxRecDepth 10000 in
set_option maxHeartbeats 4000000 in
theorem law_true1 (a : Option Addr) (len cap clen ccap sz b2 o2 : Nat) (xs : List Int) (w : World) (h1 : len ≤ 1024) (h2 : clen ≤ 1024) (hc : 0 < clen) (hsz : sz ≤ 255) (lx : xs.length = 20) (hx : InU8 xs) (hlc : len ≤ cap) (z z2 : Nat → Int)
    (data : len = 0 ∨ ∃ b o, a = some ⟨b, o, none⟩ ∧ ∀ j, j < len → w.cell? ⟨b, o + j, none⟩ = some (.int .u8 (z j)))
    (hcell : ∀ j, j < clen → w.cell? ⟨b2, o2 + j, none⟩ = some (.int .u8 (z2 j)) ∧ 0 ≤ z2 j ∧ z2 j ≤ 255)
    (eo : Addr) (ce : Array Value) (te : TypeId) (hg : w.cell? ⟨0, 0, none⟩ = some (.iface 65 (.pointer (some eo)))) (heo : Bk w eo.block ce te) :
    Calls Ybaf.prog 3 #[.slice a len cap, .int .u8 sz, .slice (some ⟨b2, o2, none⟩) clen ccap, .agg (u8s xs).toArray, .bool true] w fun e w' => e = .returned (.bool true) ∧ Fr [] w w' := by
  have HDT := hide data
  have HCK := hide hcell
  have HEO := hide heo
  have HG := hide hg
  have hw0 : Hid (0 < w.heap.size) := World.block_lt_of_cell? _ _ hg
  clear data hcell heo hg
  have h1' : ¬ ((len : Int) > 1024) := by omega
  have h2' : ¬ ((clen : Int) > 1024) := by omega
  have hw1 : IntKind.i64.wrap (sz : Int) = (sz : Int) := by simp only [IntKind.wrap_i64]; omega
  have hw2 : IntKind.i64.wrap ((len : Int) + 2) = (len : Int) + 2 := by simp only [IntKind.wrap_i64]; omega
  obtain ⟨size, hs0, hs1, hs2⟩ : ∃ size : Nat, (sz : Int) % ((len : Int) + 2) = (size : Int) ∧ size ≤ len + 1 ∧ size ≤ 255 := by
    refine ⟨sz % (len + 2), by push_cast; rfl, ?_, Nat.le_trans (Nat.mod_le _ _) hsz⟩
    have := Nat.mod_lt sz (show 0 < len + 2 by omega)
    omega
  have hm : (sz : Int).tmod ((len : Int) + 2) = (size : Int) := by
    rw [Int.tmod_eq_emod_of_nonneg (by omega)]; exact hs0
  have hnz : ¬ ((len : Int) + 2 = 0) := by omega
  have e3 : Hid ((u8s xs).length = 20) := by rw [u8s_length]; exact lx
  have LX := hide lx
  have HB0 : Hid (Bk (w.alloc (.cells (u8s xs).toArray 23)) w.heap.size (u8s xs).toArray 23) := Bk.fresh w _ 23
  have HD0 : Hid ((w.alloc (.cells (u8s xs).toArray 23)).rangeAt w.heap.size 0 (u8s xs)) := range_of_bk (unhide HB0)
  have HZ0 : Hid (Bk ((w.alloc (.cells (u8s xs).toArray 23)).alloc (.cells #[.int .u8 0, .int .u8 0, .int .u8 0, .int .u8 0, .int .u8 0, .int .u8 0, .int .u8 0, .int .u8 0, .int .u8 0, .int .u8 0, .int .u8 0, .int .u8 0, .int .u8 0, .int .u8 0, .int .u8 0, .int .u8 0, .int .u8 0, .int .u8 0, .int .u8 0, .int .u8 0] 24)) (w.heap.size + 1) zeros20.toArray 24) := by
    have h := Bk.fresh (w.alloc (.cells (u8s xs).toArray 23)) #[.int .u8 0, .int .u8 0, .int .u8 0, .int .u8 0, .int .u8 0, .int .u8 0, .int .u8 0, .int .u8 0, .int .u8 0, .int .u8 0, .int .u8 0, .int .u8 0, .int .u8 0, .int .u8 0, .int .u8 0, .int .u8 0, .int .u8 0, .int .u8 0, .int .u8 0, .int .u8 0] 24
    simp only [World.size_alloc] at h
    exact h
  have HQ : Hid (∀ W2 : World, Fr [w.heap.size + 1] ((w.alloc (.cells (u8s xs).toArray 23)).alloc (.cells #[.int .u8 0, .int .u8 0, .int .u8 0, .int .u8 0, .int .u8 0, .int .u8 0, .int .u8 0, .int .u8 0, .int .u8 0, .int .u8 0, .int .u8 0, .int .u8 0, .int .u8 0, .int .u8 0, .int .u8 0, .int .u8 0, .int .u8 0, .int .u8 0, .int .u8 0, .int .u8 0] 24)) W2 → Bk W2 w.heap.size (u8s xs).toArray 23 ∧ Fr [] w W2 ∧ w.heap.size + 2 ≤ W2.heap.size) := fun W2 g => by
    refine ⟨g.bk ((unhide HB0).alloc _) (by simp), (((Fr.refl [] w).alloc _).alloc _).also g (by simp), ?_⟩
    have := g.size
    simpa using this
  obtain ⟨x0, HX0⟩ : ∃ x0, Hid (x0 = xs.getD 0 0) := ⟨_, rfl⟩
  have HQ2 : Hid (∀ W2 : World, Bk W2 (w.heap.size + 1) (u8s xs).toArray 24 → W2.cell? ⟨w.heap.size + 1, 0, none⟩ = some (.int .u8 x0) ∧ W2.frozen? ⟨w.heap.size + 1, 0, none⟩ = false) := fun W2 g => by
    refine ⟨?_, g.frozen _⟩
    rw [g.cell, unhide HX0]
    simpa using u8s_get xs 0 (by omega)
  clear lx HB0
  go_enter Ybaf.func3, Ybaf.ntmps3
  go_wp2_with (first | (refine wpList_build27 rfl (.tmp 45) rfl (u8s xs) rfl (unhide e3) ?_) | (refine wpList_load_mid rfl 23 (.tmp 8) rfl w.heap.size 0 rfl (u8s xs) _ (by first | exact unhide HD0 | exact range_of_bk (unhide HB2) | exact range_of_bk ((unhide HB2).setOther _ _ (by simp))) Ybaf.underlying23 rfl (by rw [unhide e3]; kernel_rfl) ?_) | (refine wpList_store_id rfl (.tmp 12) (.tmp 38) rfl (w.heap.size + 1) (u8s xs) zeros20 rfl rfl (unhide HZ0) rfl (unhide e3) (u8s_one xs) ?_; intro W2 g1 g2; have HB2 : Hid (Bk W2 w.heap.size (u8s xs).toArray 23) := (unhide HQ W2 (unhide g2)).1; have HF2 : Hid (Fr [] w W2) := (unhide HQ W2 (unhide g2)).2.1; have HS2 : Hid (w.heap.size + 2 ≤ W2.heap.size) := (unhide HQ W2 (unhide g2)).2.2; have c00 := (unhide HQ2 W2 (unhide g1)).1; have c01 := (unhide HQ2 W2 (unhide g1)).2; clear g2 HQ HQ2 HZ0 HD0))
  obtain ⟨ys, hys⟩ : ∃ ys, ys = xs := ⟨_, rfl⟩
  have hyl : ys.length = 20 := by subst hys; simpa using unhide LX
  have hyi : InU8 ys := by subst hys; exact hx
  have hyx : (xs = ys) = True := by subst hys; simp
  have KH : Bk (W2.alloc (.cells (hs (.slice none 0 0) (u8s xs)) 27)) W2.heap.size (hs (.slice none 0 0) (u8s xs)) 27 := by
    have h := Bk.fresh W2 (hs (.slice none 0 0) (u8s xs)) 27
    simpa using h
  have KI : Bk (W2.alloc (.cells (hs (.slice none 0 0) (u8s xs)) 27)) (w.heap.size + 1) (u8s ys).toArray 24 := by
    subst hys
    exact (unhide g1).alloc _
  have KF : Fr [] w (W2.alloc (.cells (hs (.slice none 0 0) (u8s xs)) 27)) := (unhide HF2).alloc _
  have KS : (W2.alloc (.cells (hs (.slice none 0 0) (u8s xs)) 27)).heap.size = W2.heap.size + 1 := by simp
  have hsW := unhide HS2
  generalize W2.alloc (.cells (hs (.slice none 0 0) (u8s xs)) 27) = W3 at KH KI KF KS ⊢
  generalize W2.heap.size = hb at KH KS hsW ⊢
  have HLX := LX
  clear g1 HB2 HF2 HS2 hs0 hm hw1 c00 c01 LX e3
  have lys : (u8s ys).length = 20 := by rw [u8s_length]; exact hyl
  have ki := range_of_bk KI
  have e1 := under24
  have e2 : (Ybaf.prog.info? 24).map (·.size) = some (u8s ys).length := by rw [lys]; exact info24
  have e4 := u8s_one ys
  obtain ⟨y0, y1, y2, y3, y4, y5, y6, y7, y8, y9, y10, y11, y12, y13, y14, y15, y16, y17, y18, y19, hY⟩ := twenty (u8s ys) lys
  rw [hY] at ki e2 e4
  have HY := hide hY
  clear hY
  have HKH := hide KH
  have HKF := hide KF
  have HKS := hide KS
  clear KH KI KF KS
  clear hys
  go_region_held3 (fun w' => w'.rangeAt (w.heap.size + 1) 0 [y0, y1, y2, y3, y4, y5, y6, y7, y8, y9, y10, y11, y12, y13, y14, y15, y16, y17, y18, y19]) (first | assumption | exact (World.rangeAt_drew _ _ _ _).2 (by assumption) | exact World.rangeAt_alloc (by assumption) _)
    ((first
      | (go_at_call 5
         refine (newReader' (hb + 1) a len cap _ (by exact unhide HKS)).mono ?_
         rintro e w4 ⟨rfl, f1, f2, f3⟩
         have i4 : w4.rangeAt (w.heap.size + 1) 0 [y0, y1, y2, y3, y4, y5, y6, y7, y8, y9, y10, y11, y12, y13, y14, y15, y16, y17, y18, y19] := range_keep ((World.rangeAt_drew _ _ _ _).2 ki) f2 (by simp)
         have F1 := hide f1
         have F2 := hide f2
         have F3 := hide f3
         clear f1 f2 f3)
      | (go_at_call 4
         refine (newBuf' (hb + 1) (hb + 2) _ (by exact unhide F3)).mono ?_
         rintro e w5 ⟨rfl, f4, f5, f6⟩
         have i5 : w5.rangeAt (w.heap.size + 1) 0 [y0, y1, y2, y3, y4, y5, y6, y7, y8, y9, y10, y11, y12, y13, y14, y15, y16, y17, y18, y19] := range_keep i4 f6 (by simp)
         have F4 := hide f4
         have F5 := hide f5
         have F6 := hide f6
         clear f4 f5 f6)))
  have hlrd : (#[y0, y1, y2, y3, y4, y5, y6, y7, y8, y9, y10, y11, y12, y13, y14, y15, y16, y17, y18, y19, .string ⟨#[98, 108, 111, 98]⟩, .int .i64 size, .int .i64 size, .pointer none, .nilIface, .pointer (some ⟨hb + 2, 0, none⟩), .iface 25 (.pointer (some ⟨hb, 0, none⟩))] : Array Value) = lrd (u8s ys) size size (hb + 2) hb := by rw [unhide HY]; rfl
  have s5 : Fr [] w w5 := ((((unhide HKF).of_heap (w'' := W3.drew) rfl rfl rfl rfl).trans (unhide F2))).trans (unhide F6)
  have r5 : Bk w5 (hb + 1) (rdr a len cap 0 (-1)) 53 := (unhide F6).bk (unhide F1) (by simp)
  have k5 : Bk w5 hb (hs (.slice none 0 0) (u8s xs)) 27 := (unhide F6).bk ((unhide F2).bk (show Bk W3.drew hb _ 27 from unhide HKH) (by simp)) (by simp)
  have l5 : hb + 4 ≤ w5.heap.size := by have := (unhide F5).lt; omega
  have CST : Hid (Cst w hb w5.heap.size (w5.heap.size + 1) len cap size a z xs ys eo) := ⟨unhide hw0, hsW, l5, Nat.lt_succ_self _, h1, hlc, hs1, hs2, unhide HDT, hx, unhide HLX, hyi, hyl, unhide HG⟩
  have S0 : Hid (St w hb w5.heap.size (w5.heap.size + 1) size z xs ys 0 0 (.slice none 0 0) (.slice none 0 0) (w5.alloc (.cells (lrd (u8s ys) size size (hb + 2) hb) 39))) :=
    ⟨Bk.fresh w5 _ 39, k5.alloc _, Own.nil _ _ _, Own.nil _ _ _, by simp [Value.ownBlock], s5.alloc _, by simp⟩
  have R0 : Hid (RD (w5.alloc (.cells (lrd (u8s ys) size size (hb + 2) hb) 39)) (hb + 1) (hb + 2) (hb + 2 + 1) a len cap z 0) :=
    ⟨0, 0, 0, -1, -1, -1, zeros16, r5.alloc _, (unhide F4).alloc _, (unhide F5).alloc _, rfl, Nat.le_refl _, by omega, Nat.zero_le _, rfl, fun j hj => by omega⟩
  rw [← hlrd] at S0 R0
  generalize w5.alloc (.cells #[y0, y1, y2, y3, y4, y5, y6, y7, y8, y9, y10, y11, y12, y13, y14, y15, y16, y17, y18, y19, .string ⟨#[98, 108, 111, 98]⟩, .int .i64 size, .int .i64 size, .pointer none, .nilIface, .pointer (some ⟨hb + 2, 0, none⟩), .iface 25 (.pointer (some ⟨hb, 0, none⟩))] 39) = W6 at S0 R0 ⊢
  clear hlrd
  clear F1 F2 F3 F4 F5 F6 i4 i5 s5 r5 k5 HKH HKF HKS ki e1 e2 e4 lys
  generalize w5.heap.size = lb at CST S0 l5 ⊢
  have hw4 : IntKind.i64.wrap ((len : Int) + 4) = (len : Int) + 4 := by simp only [IntKind.wrap_i64]; omega
  go_wp2_with fail
  go_loopw [15, 16, 17, 18] (fun g er dn i wr => LRel w hb lb (lb + 1) len cap size a z xs ys g er dn i wr) (fun _ _ _ i _ => len + 5 - (intOf i).toNat)
  case atStart => exact ⟨0, 0, .slice none 0 0, rfl, rfl, rfl, Nat.le_refl _, Nat.zero_le _, Nat.zero_le _, unhide S0, unhide R0⟩
  case round =>
    obtain ⟨pos, kk, lv, rfl, rfl, rfl, hkp, hpl, hps, hst, hrd⟩ := hrel
    obtain ⟨gq, gcp, rfl⟩ := hst.og.form
    have hlt : (kk : Int) < (len : Int) + 4 := by omega
    have SR := hide hst
    have RR := hide hrd
    clear hst hrd S0 R0
    have hwk : IntKind.i64.wrap ((kk : Int) + 1) = ((kk + 1 : Nat) : Int) := by simp only [IntKind.wrap_i64]; omega
    · skip
      obtain ⟨j, hj⟩ : ∃ j, j = kk % clen := ⟨_, rfl⟩
      have hjl : j < clen := by rw [hj]; exact Nat.mod_lt _ (by omega)
      obtain ⟨hcj, hz0, hz1⟩ := unhide HCK j hjl
      have hcr : wr.cell? ⟨b2, o2 + j, none⟩ = some (.int .u8 (z2 j)) := (unhide SR).fr.cell hcj (by simp)
      generalize z2 j = x at hcj hz0 hz1 hcr
      have t1 : (kk : Int) % (clen : Int) = (j : Int) := by rw [hj]; push_cast; rfl
      have t2 : (kk : Int).tmod (clen : Int) = (j : Int) := by rw [Int.tmod_eq_emod_of_nonneg (by omega)]; exact t1
      have t3 : ¬ ((clen : Int) = 0) := by omega
      have t4 : (clen : Int) > 0 := by omega
      have t5 : (j : Int) < (clen : Int) := by omega
      have t6 : IntKind.i64.wrap x = x := by simp only [IntKind.wrap_i64]; omega
      obtain ⟨kn, hkn⟩ : ∃ kn : Nat, 1 + x % 40 = (kn : Int) := ⟨(1 + x % 40).toNat, by omega⟩
      have hkn1 : 1 ≤ kn := by omega
      have hkn2 : kn ≤ 40 := by omega
      have t7 : x.tmod 40 = x % 40 := Int.tmod_eq_emod_of_nonneg hz0
      have t8 : IntKind.i64.wrap (1 + x % 40) = (kn : Int) := by simp only [IntKind.wrap_i64]; omega
      have mk1 : ∀ w, (Instr.makeSlice 22 (.int .i64 (kn : Int)) (.int .i64 (kn : Int))).run Ybaf.prog w = .ok (.slice (some ⟨w.heap.size, 0, none⟩) kn kn) (w.alloc (.cells (madeCells #[.int .u8 0] kn) 5)) := fun w => make_k kn (by omega) w
      clear hcj hj
      go_wp2_with fail
      have SA := (unhide SR).alloc (.cells (madeCells #[.int .u8 0] kn) 5)
      have RA := (unhide RR).keep ((Fr.refl [] wr).alloc (.cells (madeCells #[.int .u8 0] kn) 5)) (by simp) (by simp) (by simp)
      have PA : Bk (wr.alloc (.cells (madeCells #[.int .u8 0] kn) 5)) wr.heap.size (madeCells #[.int .u8 0] kn).toList.toArray 5 := by
        simpa using Bk.fresh wr (madeCells #[.int .u8 0] kn) 5
      have o5 : ∀ g, lv.ownBlock = some g → g ≠ wr.heap.size := fun g hq => by have := ((unhide SR).ol.lt g hq).2; omega
      have o6 : ∀ g, (Value.slice gq pos gcp).ownBlock = some g → g ≠ wr.heap.size := fun g hq => by have := ((unhide SR).og.lt g hq).2; omega
      have hpb : lb + 1 ≤ wr.heap.size := (unhide SR).bs
      have hpw : wr.heap.size < (wr.alloc (.cells (madeCells #[.int .u8 0] kn) 5)).heap.size := by simp
      generalize wr.alloc (.cells (madeCells #[.int .u8 0] kn) 5) = wA at SA RA PA hpw ⊢
      generalize wr.heap.size = pb at PA o5 o6 hpb hpw ⊢
      by_cases hgo : pos < len ∧ pos < size
      · refine (step_ok (unhide CST) wA SA RA hgo.1 hgo.2 PA (by simp [size_madeCells]) hkn1 hkn2 hpb o5 o6).mono ?_
        rintro e w7 ⟨n, lv', q1, q2, q3, q4, rfl, q5, q6, q7⟩
        have Q5 := hide q5
        have Q6 := hide q6
        have Q7 := hide q7
        clear q5 q6 q7 SA RA PA o5 o6
        have r1 : ¬ ((n : Int) < 0) := by omega
        have r2 : ¬ ((n : Int) > (kn : Int)) := by omega
        have r3 : (0 : Int) ≤ (n : Int) := by omega
        have r4 : (n : Int) ≤ (kn : Int) := by omega
        have r5 : n ≤ kn := by omega
        have r6 : (n : Int) ≤ ((kn : Nat) : Int) := by omega
        go_wp2_with (at_builtin; refine wpList_append_bytes rfl (.tmp 94) (.tmp 97) rfl (lb + 1) pos n kn pb (.slice gq pos gcp) z rfl (by exact (unhide Q6).og) rfl (by exact unhide Q5) (by omega) (by exact (unhide Q6).bs) ?_; intro p' cp' w8 h2' h3' h5')
        go_roundw
        case rel =>
          refine ⟨pos + n, kk + 1, lv', rfl, rfl, by simp, by omega, q3, q4, (unhide Q6).app (unhide CST).h3 (by have := (unhide CST).h3; omega) (by have := (unhide CST).h3; omega) (unhide h2') (unhide h3') (unhide h5'), (unhide Q7).keep (unhide h3') ?_ ?_ ?_⟩
          all_goals
            intro hm
            have := ((unhide Q6).og.lt _ (by simpa using hm)).1
            omega
        case measure => simp [intOf]; omega
      · by_cases hA0 : size < len
        · have hA : size < len := hA0
          have HPE : Hid (pos = size) := by show pos = size; omega
          obtain ⟨b, o, rfl, hzz⟩ := (unhide HDT).resolve_left (by omega)
          have v1 : (len : Int) > (size : Int) := by omega
          have v2 : ¬ ((len : Int) = (size : Int)) := by omega
          have v3 : (size : Int) ≤ (cap : Int) := by omega
          have v4 : size ≤ cap := by omega
          have v5 : (0 : Int) ≤ (size : Int) := by omega
          have HZZ := hide hzz
          clear hzz
          refine (step_stop (unhide CST) wA SA RA hpl hps (by omega) hkn1 hkn2 hpb hpw o6).mono ?_
          rintro e w7 ⟨p, lv', rfl, q5, q6⟩
          obtain ⟨es, hes1, hes2'⟩ := q5.2 (fun hgd => by omega)
          have HES2 := hide hes2'
          clear hes2'
          have Q6 := hide q6
          have SA' := hide SA
          clear q5 q6 SA RA PA o5 o6
          have r2 : ¬ ((0 : Int) > (kn : Int)) := by omega
          go_wp2_with (at_builtin; refine wpList_append_bytes rfl (.tmp 94) (.tmp 97) rfl (lb + 1) pos 0 kn pb (.slice gq pos gcp) z rfl (by exact (unhide Q6).og) rfl (fun j hj => absurd hj (Nat.not_lt_zero _)) (by omega) (by exact (unhide Q6).bs) ?_; intro p' cp' w8 h2' h3' h5')
          have S8 : Hid (St w hb lb (lb + 1) size z xs ys pos pos lv' (.slice p' (pos + 0) cp') w8) := (unhide Q6).app (unhide CST).h3 (by omega) (by omega) (unhide h2') (unhide h3') (unhide h5')
          have BW : Byt w8 (.slice (some ⟨b, o, none⟩) size cap) pos z := ⟨_, _, by rw [unhide HPE], .inr ⟨b, o, rfl, fun j hj => (unhide S8).fr.cell (unhide HZZ j (by omega)) (by simp)⟩⟩
          have hes2 := unhide HES2
          have hes3 : Bk w8 p.block #[.string es] 67 := (unhide h3').bk hes2 (fun hm => by
            have := ((unhide SA').og.lt p.block (by simpa using hm)).2
            omega)
          have heo8 : Bk w8 eo.block ce te := (unhide S8).fr.bk (unhide HEO) (by simp)
          have hlteo := (unhide HEO).lt
          have hltw := (unhide SA').fr.size
          have hnq : (binOp .neq 41 (.iface 65 (.pointer (some p))) (.iface 65 (.pointer (some eo)))).run Ybaf.prog w8 = .ok (.bool true) w8 := neq_of_eql (b := false) (eq_other p eo _ _ 67 te w8 (by omega) hes3 heo8)
          clear hes2 hes3 heo8
          have B1 := (unhide S8).og.byt
          have BL := (unhide S8).ol.byt
          have y1 := (lrd_cells (unhide S8).lr (by rw [u8s_length]; exact hyl)).2.1
          have y2 : w8.cell? ⟨hb, 0, none⟩ = some lv' := (unhide S8).hh.cell 0
          have y3 : w8.cell? ⟨0, 0, none⟩ = some (.iface 65 (.pointer (some eo))) := (unhide S8).fr.cell (unhide HG) (by simp)
          have y4 : IntKind.i64.wrap ((size : Int) - (pos : Int)) = ((size - pos : Nat) : Int) := by simp only [IntKind.wrap_i64]; omega
          have YB1 := hide B1
          have YBL := hide BL
          clear B1 BL
          refine (equal_any _ _ pos z w8 (unhide YB1) BW).mono ?_
          rintro e w9 ⟨rfl, rfl⟩
          clear BW
          go_wp2_with (go_at_call 7; refine (equal_any _ _ pos z w9 (unhide YBL) (unhide YB1)).mono ?_; rintro e w10 ⟨rfl, rfl⟩)
          go_ret
          exact ⟨rfl, (unhide S8).fr⟩
        by_cases hB0 : size = len
        · obtain rfl : size = len := hB0
          have HPE : Hid (pos = size) := by show pos = size; omega
          have v1 : ¬ ((size : Int) > (size : Int)) := by omega
          refine (step_stop (unhide CST) wA SA RA hpl hps (by omega) hkn1 hkn2 hpb hpw o6).mono ?_
          rintro e w7 ⟨p, lv', rfl, q5, q6⟩
          obtain rfl : eo = p := (q5.1 ⟨rfl, by rw [hyx]; trivial⟩).symm
          have Q6 := hide q6
          have SA' := hide SA
          clear q5 q6 SA RA PA o5 o6
          have r2 : ¬ ((0 : Int) > (kn : Int)) := by omega
          go_wp2_with (at_builtin; refine wpList_append_bytes rfl (.tmp 94) (.tmp 97) rfl (lb + 1) pos 0 kn pb (.slice gq pos gcp) z rfl (by exact (unhide Q6).og) rfl (fun j hj => absurd hj (Nat.not_lt_zero _)) (by omega) (by exact (unhide Q6).bs) ?_; intro p' cp' w8 h2' h3' h5')
          have S8 : Hid (St w hb lb (lb + 1) size z xs ys pos pos lv' (.slice p' (pos + 0) cp') w8) := (unhide Q6).app (unhide CST).h3 (by omega) (by omega) (unhide h2') (unhide h3') (unhide h5')
          have BW : Byt w8 (.slice a size cap) pos z := by
            refine ⟨a, cap, by rw [unhide HPE], ?_⟩
            rcases unhide HDT with h | ⟨b, o, ha, hzz⟩
            · exact .inl (by omega)
            · exact .inr ⟨b, o, ha, fun j hj => (unhide S8).fr.cell (hzz j (by omega)) (by simp)⟩
          have trivial1 : True := trivial
          have B1 := (unhide S8).og.byt
          have BL := (unhide S8).ol.byt
          have y1 := (lrd_cells (unhide S8).lr (by rw [u8s_length]; exact hyl)).2.1
          have y2 : w8.cell? ⟨hb, 0, none⟩ = some lv' := (unhide S8).hh.cell 0
          have y3 : w8.cell? ⟨0, 0, none⟩ = some (.iface 65 (.pointer (some eo))) := (unhide S8).fr.cell (unhide HG) (by simp)
          have y4 : IntKind.i64.wrap ((size : Int) - (pos : Int)) = ((size - pos : Nat) : Int) := by simp only [IntKind.wrap_i64]; omega
          have YB1 := hide B1
          have YBL := hide BL
          clear B1 BL
          refine (equal_any _ _ pos z w8 (unhide YB1) BW).mono ?_
          rintro e w9 ⟨rfl, rfl⟩
          clear BW
          go_wp2_with (go_at_call 7; refine (equal_any _ _ pos z w9 (unhide YBL) (unhide YB1)).mono ?_; rintro e w10 ⟨rfl, rfl⟩)
          go_ret
          exact ⟨rfl, (unhide S8).fr⟩
        · have HPE : Hid (pos = len) := by show pos = len; omega
          have v1 : ¬ ((len : Int) > (size : Int)) := by omega
          have v2 : ¬ ((len : Int) = (size : Int)) := by omega
          refine (step_stop (unhide CST) wA SA RA hpl hps (by omega) hkn1 hkn2 hpb hpw o6).mono ?_
          rintro e w7 ⟨p, lv', rfl, q5, q6⟩
          obtain ⟨es, hes1, hes2'⟩ := q5.2 (fun hgd => by omega)
          have HES2 := hide hes2'
          clear hes2'
          have Q6 := hide q6
          have SA' := hide SA
          clear q5 q6 SA RA PA o5 o6
          have r2 : ¬ ((0 : Int) > (kn : Int)) := by omega
          go_wp2_with (at_builtin; refine wpList_append_bytes rfl (.tmp 94) (.tmp 97) rfl (lb + 1) pos 0 kn pb (.slice gq pos gcp) z rfl (by exact (unhide Q6).og) rfl (fun j hj => absurd hj (Nat.not_lt_zero _)) (by omega) (by exact (unhide Q6).bs) ?_; intro p' cp' w8 h2' h3' h5')
          have S8 : Hid (St w hb lb (lb + 1) size z xs ys pos pos lv' (.slice p' (pos + 0) cp') w8) := (unhide Q6).app (unhide CST).h3 (by omega) (by omega) (unhide h2') (unhide h3') (unhide h5')
          have BW : Byt w8 (.slice a len cap) pos z := by
            refine ⟨a, cap, by rw [unhide HPE], ?_⟩
            rcases unhide HDT with h | ⟨b, o, ha, hzz⟩
            · exact .inl (by omega)
            · exact .inr ⟨b, o, ha, fun j hj => (unhide S8).fr.cell (hzz j (by omega)) (by simp)⟩
          have hes2 := unhide HES2
          have hes3 : Bk w8 p.block #[.string es] 67 := (unhide h3').bk hes2 (fun hm => by
            have := ((unhide SA').og.lt p.block (by simpa using hm)).2
            omega)
          have heo8 : Bk w8 eo.block ce te := (unhide S8).fr.bk (unhide HEO) (by simp)
          have hlteo := (unhide HEO).lt
          have hltw := (unhide SA').fr.size
          have hnq : (binOp .neq 41 (.iface 65 (.pointer (some p))) (.iface 65 (.pointer (some eo)))).run Ybaf.prog w8 = .ok (.bool true) w8 := neq_of_eql (b := false) (eq_other p eo _ _ 67 te w8 (by omega) hes3 heo8)
          clear hes2 hes3 heo8
          have B1 := (unhide S8).og.byt
          have BL := (unhide S8).ol.byt
          have y1 := (lrd_cells (unhide S8).lr (by rw [u8s_length]; exact hyl)).2.1
          have y2 : w8.cell? ⟨hb, 0, none⟩ = some lv' := (unhide S8).hh.cell 0
          have y3 : w8.cell? ⟨0, 0, none⟩ = some (.iface 65 (.pointer (some eo))) := (unhide S8).fr.cell (unhide HG) (by simp)
          have y4 : IntKind.i64.wrap ((size : Int) - (pos : Int)) = ((size - pos : Nat) : Int) := by simp only [IntKind.wrap_i64]; omega
          have YB1 := hide B1
          have YBL := hide BL
          clear B1 BL
          refine (equal_any _ _ pos z w8 (unhide YB1) BW).mono ?_
          rintro e w9 ⟨rfl, rfl⟩
          clear BW
          go_wp2_with (go_at_call 7; refine (equal_any _ _ pos z w9 (unhide YBL) (unhide YB1)).mono ?_; rintro e w10 ⟨rfl, rfl⟩)
          go_ret
          exact ⟨rfl, (unhide S8).fr⟩

end Go.Proofs.YbulkdcecFmt
