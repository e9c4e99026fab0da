/-
  The hash of the law: Sum (39); sum (13).
-/
import Derived.Test.YbulkdcecFmtHash
import Derived.Deep.MidRow
import Derived.Deep.RegionHeld3
namespace Go.Proofs.YbulkdcecFmt
open Go.RowKit Go.Extern.Stop Go.Stop Go.Extern
set_option linter.unusedVariables false
set_option linter.unusedSimpArgs false

theorem Bk.setCells {t : TypeId} : ∀ (vs : List Value) (o : Nat) (w : World) (b : Nat) (cs : List Value), Bk w b cs.toArray t → o + vs.length ≤ cs.length → Bk (w.setCells b o vs) b (splice cs o vs).toArray t
  | [], o, w, b, cs, h, _ => by simpa [World.setCells, splice] using h
  | v :: r, o, w, b, cs, h, hl => by
    have hl' : o + 1 + r.length ≤ cs.length := by simp at hl; omega
    have h1 := h.set o v
    have e : cs.toArray.setIfInBounds o v = (cs.set o v).toArray := by simp
    rw [e] at h1
    have h2 := Bk.setCells r (o + 1) (w.setCell ⟨b, o, none⟩ v) b (cs.set o v) h1 (by simpa using hl')
    show Bk ((w.setCell ⟨b, o, none⟩ v).setCells b (o + 1) r) b _ t
    have e2 : splice (cs.set o v) (o + 1) r = splice cs o (v :: r) := by
      simp only [splice]
      have ho : o < cs.length := by omega
      rw [List.take_succ_eq_append_getElem (by simpa using ho)]
      simp only [List.getElem_set_self, List.append_assoc, List.singleton_append, List.cons_append, List.length_cons]
      rw [List.take_set_of_le (Nat.le_refl _), List.drop_set_of_lt (by omega)]
      rw [show o + 1 + r.length = o + (r.length + 1) from by omega, List.nil_append]
    rw [e2] at h2
    exact h2
theorem Fr.setCells {S : List Nat} {b : Nat} (hb : b ∈ S) : ∀ (vs : List Value) (o : Nat) (a w : World), Fr S a w → Fr S a (w.setCells b o vs)
  | [], _, _, _, h => h
  | v :: r, o, a, w, h => Fr.setCells hb r (o + 1) a (w.setCell ⟨b, o, none⟩ v) (h.set hb o v)
theorem splice_whole (cs ds : List Value) (h : cs.length = ds.length) : splice cs 0 ds = ds := by
  simp [splice, h]

/-- append where there is room, for the walk of a plain region. -/
theorem wpList_append_into {w : World} {ops : Array Oper} {rest : List Oper} {o : Oper} {a : Act} {Q : Exit → Act → World → Prop} (hgd : o.guard = none) (s x : Operand)
    (ho : o.op = .call { callee := .builtin .append, args := #[s, x], argTypes := #[22, 22] }) (ib : Nat) (T : TypeId) (cs ds : List Value) (ad : Addr) (cap c : Nat)
    (hs : a.eval s = .slice (some ⟨ib, 0, none⟩) 0 cap) (hx : a.eval x = .slice (some ad) ds.length c) (hc : cs.length = ds.length) (hcap : ds.length ≤ cap) (hi : Bk w ib cs.toArray T)
    (hsrc : ∀ j u, ds[j]? = some u → w.cell? (ad.add j) = some u) (h1 : ∀ u ∈ ds, u.oneCell' = true)
    (h : ∀ w', Hid (Bk w' ib ds.toArray T) → Hid (Fr [ib] w w') → wpList Ybaf.prog ops Q rest (a.put o.dst (.slice (some ⟨ib, 0, none⟩) ds.length cap)) w') :
    wpList Ybaf.prog ops Q (o :: rest) a w := by
  obtain ⟨i0, hi0, hz0, hz1, hz2⟩ := info5'
  refine wpList_plain hgd fun K hK => ?_
  have hrun := run_append_room_cells (P := Ybaf.prog) w 22 o.type 5 i0 Ybaf.underlying22 hi0 ib 0 0 cap ad ds.length c ds (by rw [hz1, Nat.mul_one]) hsrc h1 (by omega)
    (fun j hj => by rw [show 0 + 0 * i0.size + j = j from by omega, hi.cell]; simp; omega) (fun j hj => hi.frozen _)
  rw [show 0 + 0 * i0.size = 0 from by omega, Nat.zero_add] at hrun
  unfold Oper.wp
  simp [execOp, ho, resolve, invoke, builtin, hs, hx, hrun, Result.andThen]
  have hb := Bk.setCells ds 0 w ib cs hi (by omega)
  rw [splice_whole cs ds hc] at hb
  exact hK _ _ (h _ hb (Fr.setCells (by simp) ds 0 w w (Fr.refl _ _)))

set_option maxHeartbeats 400000 in
theorem sumM_any (hb ib : Nat) (lv : Value) (ds is : List Value) (w : World) (hh : Bk w hb (hs lv ds) 27) (hds : ds.length = 20) (h1 : ∀ u ∈ ds, u.oneCell' = true) (hi : Bk w ib is.toArray 24) (his : is.length = 20) :
    Calls Ybaf.prog 39 #[.pointer (some ⟨hb, 0, none⟩), .slice (some ⟨ib, 0, none⟩) 0 20] w fun e w' => (∃ v, e = .returned v) ∧ Bk w' ib ds.toArray 24 ∧ Fr [ib] w w' := by
  have HS : Hid (∀ j u, ds[j]? = some u → w.cell? ((⟨hb, 1, none⟩ : Addr).add j) = some u) := by
    intro j u hu
    rw [add_at, hh.cell]
    simpa [hs, Nat.add_comm 1 j] using hu
  have HI := hide hi
  have H1 := hide h1
  have HD := hide hds
  clear hh hi h1 hds
  go_enter Ybaf.func39, Ybaf.ntmps39
  go_wp2_with (at_builtin; refine wpList_append_into rfl (.tmp 5) (.tmp 9) rfl ib 24 is ds ⟨hb, 1, none⟩ 20 20 rfl (by rw [unhide HD]; rfl) (by rw [unhide HD, his]) (by rw [unhide HD]; omega) (by exact unhide HI) (by exact unhide HS) (by exact unhide H1) ?_; intro w' g1 g2)
  go_ret
  exact ⟨⟨_, rfl⟩, unhide g1, unhide g2⟩

theorem n_sum (a : Addr) (w : World) : (nilAhead 195 25 (.pointer (some a)) "Sum").run Ybaf.prog w = .ok (some false) w := by kernel_rfl
attribute [local go_sem] m_sum n_sum

/-- Twenty zero bytes. -/
def zeros20 : List Value := List.replicate 20 (.int .u8 0)

set_option maxRecDepth 10000 in
set_option maxHeartbeats 1000000 in
theorem sum_any (hb : Nat) (lv : Value) (ds : List Value) (w : World) (hh : Bk w hb (hs lv ds) 27) (hds : ds.length = 20) (h1 : ∀ u ∈ ds, u.oneCell' = true) :
    Calls Ybaf.prog 13 #[.iface 25 (.pointer (some ⟨hb, 0, none⟩))] w fun e w' => e = .returned (.agg ds.toArray) ∧ Below w.heap.size w w' := by
  have HH := hide hh
  have H1 := hide h1
  have HD := hide hds
  clear hh h1 hds
  go_enter Ybaf.func13, Ybaf.ntmps13
  go_wp2_with fail
  have hr1 : Bk ((w.alloc (.cells #[.int .u8 0, .int .u8 0, .int .u8 0, .int .u8 0, .int .u8 0, .int .u8 0, .int .u8 0, .int .u8 0, .int .u8 0, .int .u8 0, .int .u8 0, .int .u8 0, .int .u8 0, .int .u8 0, .int .u8 0, .int .u8 0, .int .u8 0, .int .u8 0, .int .u8 0, .int .u8 0] 24)).alloc (.cells #[.int .u8 0, .int .u8 0, .int .u8 0, .int .u8 0, .int .u8 0, .int .u8 0, .int .u8 0, .int .u8 0, .int .u8 0, .int .u8 0, .int .u8 0, .int .u8 0, .int .u8 0, .int .u8 0, .int .u8 0, .int .u8 0, .int .u8 0, .int .u8 0, .int .u8 0, .int .u8 0] 24)) w.heap.size zeros20.toArray 24 := (Bk.fresh w _ 24).alloc _
  have hi1 : Bk ((w.alloc (.cells #[.int .u8 0, .int .u8 0, .int .u8 0, .int .u8 0, .int .u8 0, .int .u8 0, .int .u8 0, .int .u8 0, .int .u8 0, .int .u8 0, .int .u8 0, .int .u8 0, .int .u8 0, .int .u8 0, .int .u8 0, .int .u8 0, .int .u8 0, .int .u8 0, .int .u8 0, .int .u8 0] 24)).alloc (.cells #[.int .u8 0, .int .u8 0, .int .u8 0, .int .u8 0, .int .u8 0, .int .u8 0, .int .u8 0, .int .u8 0, .int .u8 0, .int .u8 0, .int .u8 0, .int .u8 0, .int .u8 0, .int .u8 0, .int .u8 0, .int .u8 0, .int .u8 0, .int .u8 0, .int .u8 0, .int .u8 0] 24)) (w.heap.size + 1) zeros20.toArray 24 := by
    have h := Bk.fresh (w.alloc (.cells #[.int .u8 0, .int .u8 0, .int .u8 0, .int .u8 0, .int .u8 0, .int .u8 0, .int .u8 0, .int .u8 0, .int .u8 0, .int .u8 0, .int .u8 0, .int .u8 0, .int .u8 0, .int .u8 0, .int .u8 0, .int .u8 0, .int .u8 0, .int .u8 0, .int .u8 0, .int .u8 0] 24)) #[.int .u8 0, .int .u8 0, .int .u8 0, .int .u8 0, .int .u8 0, .int .u8 0, .int .u8 0, .int .u8 0, .int .u8 0, .int .u8 0, .int .u8 0, .int .u8 0, .int .u8 0, .int .u8 0, .int .u8 0, .int .u8 0, .int .u8 0, .int .u8 0, .int .u8 0, .int .u8 0] 24
    simp only [World.size_alloc] at h
    exact h
  have hh1 : Bk ((w.alloc (.cells #[.int .u8 0, .int .u8 0, .int .u8 0, .int .u8 0, .int .u8 0, .int .u8 0, .int .u8 0, .int .u8 0, .int .u8 0, .int .u8 0, .int .u8 0, .int .u8 0, .int .u8 0, .int .u8 0, .int .u8 0, .int .u8 0, .int .u8 0, .int .u8 0, .int .u8 0, .int .u8 0] 24)).alloc (.cells #[.int .u8 0, .int .u8 0, .int .u8 0, .int .u8 0, .int .u8 0, .int .u8 0, .int .u8 0, .int .u8 0, .int .u8 0, .int .u8 0, .int .u8 0, .int .u8 0, .int .u8 0, .int .u8 0, .int .u8 0, .int .u8 0, .int .u8 0, .int .u8 0, .int .u8 0, .int .u8 0] 24)) hb (hs lv ds) 27 := ((unhide HH).alloc _).alloc _
  have hB1 : Below w.heap.size w ((w.alloc (.cells #[.int .u8 0, .int .u8 0, .int .u8 0, .int .u8 0, .int .u8 0, .int .u8 0, .int .u8 0, .int .u8 0, .int .u8 0, .int .u8 0, .int .u8 0, .int .u8 0, .int .u8 0, .int .u8 0, .int .u8 0, .int .u8 0, .int .u8 0, .int .u8 0, .int .u8 0, .int .u8 0] 24)).alloc (.cells #[.int .u8 0, .int .u8 0, .int .u8 0, .int .u8 0, .int .u8 0, .int .u8 0, .int .u8 0, .int .u8 0, .int .u8 0, .int .u8 0, .int .u8 0, .int .u8 0, .int .u8 0, .int .u8 0, .int .u8 0, .int .u8 0, .int .u8 0, .int .u8 0, .int .u8 0, .int .u8 0] 24)) := ((Below.refl _ _).alloc (Nat.le_refl _) _).alloc (by simp) _
  generalize ((w.alloc (.cells #[.int .u8 0, .int .u8 0, .int .u8 0, .int .u8 0, .int .u8 0, .int .u8 0, .int .u8 0, .int .u8 0, .int .u8 0, .int .u8 0, .int .u8 0, .int .u8 0, .int .u8 0, .int .u8 0, .int .u8 0, .int .u8 0, .int .u8 0, .int .u8 0, .int .u8 0, .int .u8 0] 24)).alloc (.cells #[.int .u8 0, .int .u8 0, .int .u8 0, .int .u8 0, .int .u8 0, .int .u8 0, .int .u8 0, .int .u8 0, .int .u8 0, .int .u8 0, .int .u8 0, .int .u8 0, .int .u8 0, .int .u8 0, .int .u8 0, .int .u8 0, .int .u8 0, .int .u8 0, .int .u8 0, .int .u8 0] 24)) = W1 at hr1 hi1 hh1 hB1 ⊢
  have hhl := (unhide HH).lt
  have HR := hide hr1
  have HI := hide hi1
  have HB := hide hB1
  have HH1 := hide hh1
  clear hr1 hi1 hB1 hh1 HH
  have hzl : zeros20.length = 20 := rfl
  go_region_held3 (fun w' => True) (trivial)
    ((go_at_call 39
      refine (sumM_any hb (w.heap.size + 1) lv ds zeros20 _ (by exact unhide HH1) (unhide HD) (unhide H1) (by exact unhide HI) hzl).mono ?_
      rintro e w2 ⟨⟨v, rfl⟩, g1, g2⟩))
  have hr2 : Bk w2 w.heap.size zeros20.toArray 24 := g2.bk (show Bk W1.drew _ _ 24 from unhide HR) (by simp)
  have hB2 : Below w.heap.size w w2 := ((unhide HB).trans ((Below.refl _ W1).drew)).trans (g2.below (by have := (unhide HB).size; simpa using this) (by simp))
  have HT : Hid (w2.there w.heap.size 0 ds.toArray.size) := by
    intro j hj
    refine ⟨?_, hr2.frozen _⟩
    rw [hr2.cell]
    have : j < 20 := by simpa [unhide HD] using hj
    simp [zeros20]; omega
  have HG : Hid (w2.rangeAt (w.heap.size + 1) 0 ds) := by
    intro j u hu
    rw [g1.cell, Nat.zero_add]
    simpa using hu
  have HR2 := hide hr2
  have HB2 := hide hB2
  clear g1 g2 hr2 hB2
  go_wp2_with (first | (refine wpList_load_mid rfl 24 (.tmp 3) rfl (w.heap.size + 1) 0 rfl ds _ (unhide HG) Ybaf.underlying24 rfl (by rw [unhide HD]; kernel_rfl) ?_) | (refine wpList_store_mid rfl 24 (.tmp 2) (.tmp 10) rfl w.heap.size 0 ds.toArray rfl rfl (unhide HT) (by rw [List.size_toArray, unhide HD]; kernel_rfl) (all_oneCell_toArray (unhide H1)) ?_))
  have hl := run_loadVar_mid (P := Ybaf.prog) (w2.setCells w.heap.size 0 ds) w.heap.size 0 24 ds _ (World.rangeAt_setCells_same w2 w.heap.size 0 ds (by simpa using unhide HT)) Ybaf.underlying24 rfl (by rw [unhide HD]; kernel_rfl)
  refine bodyPost_ret (v := .agg ds.toArray) ?_ rfl ⟨rfl, ?_⟩
  · simp [results, Ybaf.results13, Act.put, asAddr, hl]
  · have hf := Fr.setCells (S := [w.heap.size]) (b := w.heap.size) (by simp) ds 0 w2 w2 (Fr.refl _ _)
    exact (unhide HB2).trans (hf.below (unhide HB2).size (by simp))

end Go.Proofs.YbulkdcecFmt
