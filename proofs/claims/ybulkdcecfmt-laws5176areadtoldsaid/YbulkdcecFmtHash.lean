/-
  The hash of the law: Write (40).
-/
import Derived.Test.YbulkdcecFmtBread
import Derived.Test.YbulkdcecFmtMeth
import Derived.Maps.AppendAt
namespace Go.Proofs.YbulkdcecFmt
open Go.RowKit Go.Extern.Stop Go.Stop Go.Extern
set_option linter.unusedVariables false
set_option linter.unusedSimpArgs false

theorem info5 : (Ybaf.prog.info? 5).map (fun i => (i.zero, i.size, i.bytes)) = some (some (.int .u8 0), 1, 1) := by kernel_rfl
theorem info5' : ∃ i : TypeInfo, Ybaf.prog.info? 5 = some i ∧ i.zero = some (.int .u8 0) ∧ i.size = 1 ∧ i.bytes = 1 := by
  obtain ⟨i, hi, h⟩ := Option.map_eq_some_iff.1 info5
  simp only [Prod.mk.injEq] at h
  exact ⟨i, hi, h.1, h.2.1, h.2.2⟩

/-- A row of bytes that the call owns: 'v' holds the n bytes of z from 0 on; it lies from block 'base' on. -/
def Own (w : World) (base : Nat) (v : Value) (n : Nat) (z : Nat → Int) : Prop := w.ownsRow base 5 1 v n (bts z 0 n)

theorem Own.form {w : World} {base : Nat} {v : Value} {n : Nat} {z : Nat → Int} (h : Own w base v n z) : ∃ p cp, v = .slice p n cp := by
  rcases h.2 with ⟨rfl, rfl⟩ | ⟨g, cap, cur, rfl, _⟩
  · exact ⟨none, 0, rfl⟩
  · exact ⟨_, _, rfl⟩
theorem Own.nil (w : World) (base : Nat) (z : Nat → Int) : Own w base (.slice none 0 0) 0 z := World.ownsRow_nil w base 5 1
theorem Own.lt {w : World} {base : Nat} {v : Value} {n : Nat} {z : Nat → Int} (h : Own w base v n z) : ∀ k, v.ownBlock = some k → base ≤ k ∧ k < w.heap.size := World.ownsRow.lt h
theorem Own.keep {S : List Nat} {w w' : World} {base : Nat} {v : Value} {n : Nat} {z : Nat → Int} (h : Own w base v n z) (hf : Fr S w w') (hs : ∀ k, v.ownBlock = some k → k ∉ S) : Own w' base v n z := by
  refine ⟨h.1, ?_⟩
  rcases h.2 with hn | ⟨g, cap, cur, rfl, hb, hg, rest⟩
  · exact .inl hn
  · refine .inr ⟨g, cap, cur, rfl, hb, ?_, rest⟩
    rw [hf.block g (Array.getElem?_eq_some_iff.1 hg).1 (hs g rfl)]
    exact hg

/-- The hash's cells: the log, the digest. -/
def hs (lv : Value) (ds : List Value) : Array Value := (lv :: ds).toArray

/-- 'append(v, p[:n]...)' onto an owned row of bytes, for the walk of a plain region. -/
theorem wpList_append_bytes {w : World} {ops : Array Oper} {rest : List Oper} {o : Oper} {a : Act} {Q : Exit → Act → World → Prop} (hgd : o.guard = none) (s x : Operand)
    (ho : o.op = .call { callee := .builtin .append, args := #[s, x], argTypes := #[22, 22] })
    (base nl n c pb : Nat) (lv : Value) (z : Nat → Int) (hs : a.eval s = lv) (hown : Own w base lv nl z) (hx : a.eval x = .slice (some ⟨pb, 0, none⟩) n c)
    (hsrc : ∀ j, j < n → w.cell? ⟨pb, j, none⟩ = some (.int .u8 (z (nl + j)))) (hn : nl + n ≤ 5000) (hbase : base ≤ w.heap.size)
    (h : ∀ p' cp' w', Hid (Own w' base (.slice p' (nl + n) cp') (nl + n) z) → Hid (Fr lv.ownBlock.toList w w') → Hid ((Value.slice p' (nl + n) cp').ownBlock = lv.ownBlock ∨ (Value.slice p' (nl + n) cp').ownBlock = some w.heap.size) →
      wpList Ybaf.prog ops Q rest (a.put o.dst (.slice p' (nl + n) cp')) w') :
    wpList Ybaf.prog ops Q (o :: rest) a w := by
  obtain ⟨i0, hi, hz0, hz1, hz2⟩ := info5'
  refine wpList_append_own_at w hgd s x 22 ho base 5 i0 (.int .u8 0) 1 1 Ybaf.underlying22 hi hz0 hz1 hz2 rfl (by decide) lv nl (bts z 0 nl) hs hown ⟨pb, 0, none⟩ n c (bts z nl n) hx (by rw [bts_length, Nat.mul_one]) ?_ (bts_one _ _ _) (by unfold maxLen; omega) (by omega) hbase ?_
  · intro j v hv
    have hj : j < n := by
      have := (List.getElem?_eq_some_iff.1 hv).1
      rwa [bts_length] at this
    rw [bts_get z nl n j hj] at hv
    cases hv
    rw [add_at, Nat.zero_add]
    exact hsrc j hj
  · intro v' w' h2 h3 _ h5
    have e : bts z 0 nl ++ bts z nl n = bts z 0 (nl + n) := by
      have := bts_app z 0 nl n
      rwa [Nat.zero_add] at this
    rw [e] at h2
    have h2' : Own w' base v' (nl + n) z := h2
    obtain ⟨p', cp', rfl⟩ := h2'.form
    exact h p' cp' w' h2' (Fr.of_grown h3 (fun k hk => by simp [hk])) h5

set_option maxHeartbeats 1000000 in
theorem write_any (hb pb base nl n c : Nat) (lv : Value) (z : Nat → Int) (ds : List Value) (w : World)
    (hh : Bk w hb (hs lv ds) 27) (hown : Own w base lv nl z) (hsrc : ∀ j, j < n → w.cell? ⟨pb, j, none⟩ = some (.int .u8 (z (nl + j))))
    (hn : nl + n ≤ 5000) (hbase : base ≤ w.heap.size) (hhb : hb < base) :
    Calls Ybaf.prog 40 #[.pointer (some ⟨hb, 0, none⟩), .slice (some ⟨pb, 0, none⟩) n c] w fun e w' => ∃ lv', e = .returned (.tuple #[.int .i64 n, .nilIface]) ∧
      Bk w' hb (hs lv' ds) 27 ∧ Own w' base lv' (nl + n) z ∧ Fr (hb :: lv.ownBlock.toList) w w' ∧ (lv'.ownBlock = lv.ownBlock ∨ lv'.ownBlock = some w.heap.size) := by
  obtain ⟨i0, hi, hz0, hz1, hz2⟩ := info5'
  obtain ⟨p, cp, rfl⟩ := hown.form
  have c0 : w.cell? ⟨hb, 0, none⟩ = some (.slice p nl cp) := hh.cell 0
  have HH := hide hh
  have HO := hide hown
  have HS := hide hsrc
  have HSS := hide hsrc
  have hF : Hid (∀ w', Fr (Value.slice p nl cp).ownBlock.toList w w' → Bk w' hb (hs (.slice p nl cp) ds) 27) := fun w' hf => hf.bk hh (by
    intro hm
    have hm' : (Value.slice p nl cp).ownBlock = some hb := by simpa using hm
    have := (hown.lt hb hm').1
    omega)
  clear hown hsrc HS
  go_enter Ybaf.func40, Ybaf.ntmps40
  go_wp2_with (at_builtin; refine wpList_append_bytes rfl (.tmp 10) (.tmp 11) rfl base nl n c pb (.slice p nl cp) z rfl (by exact unhide HO) rfl (by exact unhide HSS) hn hbase ?_; intro p' cp' w' h2 h3 h5; have hh' := unhide hF w' (unhide h3); have q0 := hh'.frozen 0; have q1 : w'.cell? ⟨hb, 0, none⟩ = some (.slice p nl cp) := hh'.cell 0)
  go_ret2
  refine ⟨.slice p' (nl + n) cp', rfl, ?_, ?_, ?_, unhide h5⟩
  · have h := hh'.set 0 (.slice p' (nl + n) cp')
    simpa [hs] using h
  · refine (unhide h2).keep ((Fr.refl [hb] w').set (by simp) 0 _) ?_
    intro k hk
    have := ((unhide h2).lt k hk).1
    simp; omega
  · exact ((unhide h3).wide (fun k hk => List.mem_cons_of_mem _ hk)).set (by simp) 0 _

end Go.Proofs.YbulkdcecFmt
