/-
  encoding/hex: EncodedLen (21), Encode (22), EncodeToString (20); (ID).String (18): some string comes back, nothing old has turned.
-/
import Derived.Test.YbulkdcecFmtBread
import Derived.Laws.BytesArg
import Derived.Deep.OwnRows
namespace Go.Proofs.YbulkdcecFmt
open Go.RowKit Go.Extern.Stop Go.Stop Go.Extern
set_option linter.unusedVariables false
set_option linter.unusedSimpArgs false

/-- Numbers as byte cells. -/
def u8s (xs : List Int) : List Value := xs.map fun x => .int .u8 x
def InU8 (xs : List Int) : Prop := ∀ x ∈ xs, 0 ≤ x ∧ x ≤ 255
theorem u8s_length (xs : List Int) : (u8s xs).length = xs.length := by simp [u8s]
theorem u8s_get (xs : List Int) (j : Nat) (h : j < xs.length) : (u8s xs)[j]? = some (.int .u8 (xs.getD j 0)) := by
  simp [u8s, List.getElem?_eq_getElem h, List.getD_eq_getElem?_getD]
theorem InU8.get {xs : List Int} (h : InU8 xs) (j : Nat) : 0 ≤ xs.getD j 0 ∧ xs.getD j 0 ≤ 255 := by
  by_cases hj : j < xs.length
  · rw [List.getD_eq_getElem?_getD, List.getElem?_eq_getElem hj]
    exact h _ (List.getElem_mem hj)
  · rw [List.getD_eq_getElem?_getD, List.getElem?_eq_none (by omega)]; simp
theorem u8s_set (xs : List Int) (j : Nat) (x : Int) : (u8s xs).toArray.setIfInBounds j (.int .u8 x) = (u8s (xs.set j x)).toArray := by
  simp [u8s, List.map_set]
theorem InU8.set {xs : List Int} (h : InU8 xs) (j : Nat) (x : Int) (hx : 0 ≤ x ∧ x ≤ 255) : InU8 (xs.set j x) := by
  intro y hy
  rcases List.mem_or_eq_of_mem_set hy with g | g
  · exact h y g
  · subst g; exact hx

theorem encodedLen_any (n : Int) (w : World) (h0 : 0 ≤ n) (h1 : n ≤ 100000) : Calls Ybaf.prog 21 #[.int .i64 n] w fun e w' => e = .returned (.int .i64 (n * 2)) ∧ w = w' := by
  go_enter Ybaf.func21, Ybaf.ntmps21
  go_wp2_with fail
  go_ret
  exact ⟨rfl, rfl⟩

def HexRel (w : World) (db : Nat) (j i : Value) (wr : World) : Prop :=
  ∃ (k : Nat) (ys' : List Int), k ≤ 20 ∧ i = .int .i64 k ∧ j = .int .i64 (2 * k : Int) ∧ Bk wr db (u8s ys').toArray 5 ∧ InU8 ys' ∧ ys'.length = 40 ∧ Fr [db] w wr

theorem hexRel_step {w wr : World} {db k : Nat} {ys' : List Int} (a b : UInt8) (hk : k < 20) (hb : Bk wr db (u8s ys').toArray 5) (hin : InU8 ys') (hl : ys'.length = 40) (hf : Fr [db] w wr) :
    HexRel w db (.int .i64 (2 * (k : Int) + 2)) (.int .i64 ((k : Int) + 1)) ((wr.setCell ⟨db, 2 * k, none⟩ (.int .u8 (a.toNat : Int))).setCell ⟨db, 2 * k + 1, none⟩ (.int .u8 (b.toNat : Int))) := by
  have ha := a.toNat_lt
  have hbb := b.toNat_lt
  refine ⟨k + 1, (ys'.set (2 * k) (a.toNat : Int)).set (2 * k + 1) (b.toNat : Int), by omega, by go_num, by go_num, ?_, (hin.set _ _ ⟨by omega, by omega⟩).set _ _ ⟨by omega, by omega⟩, by simpa using hl, (hf.set (by simp) _ _).set (by simp) _ _⟩
  have h := (hb.set (2 * k) (.int .u8 (a.toNat : Int))).set (2 * k + 1) (.int .u8 (b.toNat : Int))
  rw [u8s_set, u8s_set] at h
  exact h

set_option maxHeartbeats 1000000 in
theorem encode_any (db sb : Nat) (ys xs : List Int) (w : World) (hd : Bk w db (u8s ys).toArray 5) (hy : InU8 ys) (hyl : ys.length = 40) (hsrc : ∀ j, j < 20 → w.cell? ⟨sb, j, none⟩ = some (.int .u8 (xs.getD j 0))) (hx : InU8 xs) (hne : db ≠ sb) :
    Calls Ybaf.prog 22 #[.slice (some ⟨db, 0, none⟩) 40 40, .slice (some ⟨sb, 0, none⟩) 20 20] w fun e w' => (∃ v, e = .returned v) ∧ (∃ ys', Bk w' db (u8s ys').toArray 5 ∧ InU8 ys' ∧ ys'.length = 40) ∧ Fr [db] w w' := by
  have HD := hide hd
  have HY := hide hy
  have HS := hide hsrc
  have HX := hide hx
  clear hd hy hsrc hx
  go_enter Ybaf.func22, Ybaf.ntmps22
  go_wp2_with fail
  go_loopw [5, 10] (fun j i wr => HexRel w db j i wr) (fun _ i _ => 20 - (intOf i).toNat)
  case atStart => exact ⟨0, ys, Nat.zero_le _, rfl, rfl, unhide HD, unhide HY, hyl, Fr.refl _ _⟩
  case round =>
    obtain ⟨k, ys', hk, rfl, rfl, hb, hin, hl, hf⟩ := hrel
    by_cases hlt : k < 20
    · have hc := hf.cell (unhide HS k hlt) (by simp; exact fun h => hne h.symm)
      have hv := (unhide HX).get k
      generalize xs.getD k 0 = v at hc hv
      have hltI : (k : Int) < 20 := by omega
      have hv0 := hv.1
      have hv1 := hv.2
      have hd1 : wr.cell? ⟨db, 2 * k, none⟩ = some (.int .u8 (ys'.getD (2 * k) 0)) := by
        rw [hb.cell]; simpa using u8s_get ys' (2 * k) (by omega)
      have hd2 : wr.cell? ⟨db, 2 * k + 1, none⟩ = some (.int .u8 (ys'.getD (2 * k + 1) 0)) := by
        rw [hb.cell]; simpa using u8s_get ys' (2 * k + 1) (by omega)
      have q := hb.frozen
      go_wp2_with fail
      go_roundw
      case rel =>
        exact hexRel_step _ _ hlt hb hin hl hf
      case measure => simp [intOf]; omega
    · have HF := hide hf
      have HB := hide hb
      have HN := hide hin
      clear hf hb hin
      go_wp2_with fail
      go_ret
      exact ⟨⟨_, rfl⟩, ⟨ys', unhide HB, unhide HN, hl⟩, unhide HF⟩

def zeros40 : List Int := List.replicate 40 0
theorem make40 (w : World) : (Instr.makeSlice 22 (.int .i64 40) (.int .i64 40)).run Ybaf.prog w = .ok (.slice (some ⟨w.heap.size, 0, none⟩) 40 40) (w.alloc (.cells (u8s zeros40).toArray 5)) := by kernel_rfl
attribute [local go_sem] make40

set_option maxRecDepth 10000 in
set_option maxHeartbeats 1000000 in
theorem encodeToString_any (sb : Nat) (xs : List Int) (w : World) (hsrc : ∀ j, j < 20 → w.cell? ⟨sb, j, none⟩ = some (.int .u8 (xs.getD j 0))) (hx : InU8 xs) :
    Calls Ybaf.prog 20 #[.slice (some ⟨sb, 0, none⟩) 20 20] w fun e w' => (∃ s, e = .returned (.string s)) ∧ Below w.heap.size w w' := by
  have hsb : sb < w.heap.size := World.block_lt_of_cell? _ _ (hsrc 0 (by omega))
  have HS := hide hsrc
  have HX := hide hx
  clear hsrc hx
  go_enter Ybaf.func20, Ybaf.ntmps20
  go_wp2_with fail
  refine (encodedLen_any 20 _ (by omega) (by omega)).mono ?_
  rintro e w1 ⟨rfl, rfl⟩
  go_wp2_with fail
  refine (encode_any w.heap.size sb zeros40 xs (w.alloc (.cells (u8s zeros40).toArray 5)) (Bk.fresh w _ 5) (by intro x hx; simp [zeros40] at hx; omega) rfl (fun j hj => cell_alloc (unhide HS j hj) _) (unhide HX) (by omega)).mono ?_
  rintro e w2 ⟨⟨v, rfl⟩, ⟨ys', hb, hin, hl⟩, hf⟩
  have hconv := run_convert_bytes_arg (P := Ybaf.prog) w2 22 5 Ybaf.underlying22 Ybaf.underlying5 w.heap.size 0 40 40 ys' hl (fun j hj => by rw [Nat.zero_add, hb.cell]; simpa using u8s_get ys' j (by omega)) 9 Ybaf.underlying9
  have HB : Hid (Below w.heap.size w w2) := ((Below.refl _ _).alloc (Nat.le_refl _) _).trans (hf.below (by simp) (by simp))
  clear hb hin hf
  go_wp2_with fail
  go_ret
  exact ⟨⟨_, rfl⟩, unhide HB⟩

theorem cell_agg {w : World} {xs : List Int} (hl : xs.length = 20) : ∀ j, j < 20 → (w.alloc (.cells (u8s xs).toArray 24)).cell? ⟨w.heap.size, j, none⟩ = some (.int .u8 (xs.getD j 0)) := by
  intro j hj
  rw [(Bk.fresh w (u8s xs).toArray 24).cell]
  simpa using u8s_get xs j (by omega)

theorem info24 : (Ybaf.prog.info? 24).map (·.size) = some 20 := by kernel_rfl

set_option maxRecDepth 10000 in
set_option maxHeartbeats 1000000 in
theorem string_any (xs : List Int) (hl : xs.length = 20) (hx : InU8 xs) (w : World) :
    Calls Ybaf.prog 18 #[.agg (u8s xs).toArray] w fun e w' => (∃ s, e = .returned (.string s)) ∧ Below w.heap.size w w' := by
  have HX := hide hx
  have HL := hide hl
  clear hx hl
  go_enter Ybaf.func18, Ybaf.ntmps18
  go_wp2_with fail
  refine (encodeToString_any w.heap.size xs (w.alloc (.cells (u8s xs).toArray 24)) (cell_agg (unhide HL)) (unhide HX)).mono ?_
  rintro e w2 ⟨⟨s, rfl⟩, hb⟩
  have HB : Hid (Below w.heap.size w w2) := ((Below.refl _ _).alloc (Nat.le_refl _) _).trans (hb.mono (by simp))
  clear hb
  go_wp2_with fail
  go_ret
  exact ⟨⟨_, rfl⟩, unhide HB⟩

end Go.Proofs.YbulkdcecFmt
