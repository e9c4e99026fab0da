/-
  THE TOLD AND TIED CARD OF LawS5176ARead, PROVED.
-/
import Derived.Test.YbulkdcecFmtLaid
import Derived.Test.YbulkdcecFmtLawT0
import Derived.Test.YbulkdcecFmtLawT1
import Derived.Test.YbulkdcecFmtLawF0
import Derived.Test.YbulkdcecFmtLawF1
namespace Go.Proofs.YbulkdcecFmt.read
open Go.ChangeShapes Go.WideShapes Go.ChangeAt Go.RowKit
open Go.ChangeMaps (open_string shut_string)
open Go.Extern.Stop Go.Stop Go.Extern
set_option linter.unusedVariables false

/-- A byte slice as it is read off an argument. -/
def IsRow (w : World) (a : Option Addr) (len cap : Nat) (zs : List Int) : Prop :=
  (a = none ∧ len = 0 ∧ cap = 0 ∧ zs = []) ∨
  ∃ x, a = some x ∧ len ≤ cap ∧ cap ≤ maxLen ∧ zs.length = cap ∧ (∀ i, i < zs.length → w.cell? (x.add i) = some (.int .u8 (zs.getD i 0))) ∧ ∀ n ∈ zs, (Lit.int .u8 n).wf = true

theorem IsRow.le {w : World} {a : Option Addr} {len cap : Nat} {zs : List Int} (h : IsRow w a len cap zs) : len ≤ cap := by
  rcases h with ⟨rfl, rfl, rfl, rfl⟩ | ⟨x, rfl, hlc, _⟩
  · exact Nat.le_refl _
  · exact hlc

theorem IsRow.cells {w : World} {a : Option Addr} {len cap : Nat} {zs : List Int} (h : IsRow w a len cap zs) :
    len = 0 ∨ ∃ b o, a = some ⟨b, o, none⟩ ∧ ∀ j, j < len → w.cell? ⟨b, o + j, none⟩ = some (.int .u8 (zs.getD j 0)) ∧ 0 ≤ zs.getD j 0 ∧ zs.getD j 0 ≤ 255 := by
  rcases h with ⟨rfl, rfl, rfl, rfl⟩ | ⟨x, rfl, hlc, hm, hz, hc, hwf⟩
  · exact .inl rfl
  · by_cases h0 : len = 0
    · exact .inl h0
    · obtain ⟨xb, xo, spot⟩ := x
      have hs : spot = none := by
        have := World.cell?_spot (hc 0 (by omega))
        simpa [Addr.add] using this
      subst hs
      refine .inr ⟨xb, xo, rfl, fun j hj => ?_⟩
      have hcj := hc j (by omega)
      rw [add_at] at hcj
      have hmem : zs.getD j 0 ∈ zs := by
        rw [List.getD, List.getElem?_eq_getElem (show j < zs.length by omega)]
        exact List.getElem_mem _
      have hw := hwf _ hmem
      simp only [Lit.wf, IntKind.min, IntKind.max, IntKind.signed, IntKind.bits, Bool.and_eq_true] at hw
      exact ⟨hcj, by simpa using hw.1, by simpa using hw.2⟩

theorem walk (a0 : Option Addr) (len0 cap0 : Nat) (z0 : List Int) (a1 : Int) (a2 : Option Addr) (len2 cap2 : Nat) (z2 : List Int) (xs : List Int) (a4 : Bool) (w : World) (w0 : IsRow w a0 len0 cap0 z0) (w1 : (Lit.int .u8 a1).wf = true) (w2 : IsRow w a2 len2 cap2 z2) (lx : xs.length = 20) (hx : InU8 xs)
    (eo : Addr) (ce : Array Value) (te : TypeId) (hg : w.cell? ⟨0, 0, none⟩ = some (.iface 65 (.pointer (some eo)))) (heo : Bk w eo.block ce te) :
    Calls Ybaf.prog 3 #[.slice a0 len0 cap0, .int .u8 a1, .slice a2 len2 cap2, .agg (u8s xs).toArray, .bool a4] w fun e w' => e = .returned (.bool true) ∧ Below w.heap.size w w' := by
  have hb : 0 ≤ a1 ∧ a1 ≤ 255 := by
    simp [Lit.wf, IntKind.min, IntKind.max, IntKind.signed, IntKind.bits] at w1
    omega
  obtain ⟨sz, rfl⟩ := Int.eq_ofNat_of_zero_le hb.1
  have fin : (Calls Ybaf.prog 3 #[.slice a0 len0 cap0, .int .u8 (sz : Int), .slice a2 len2 cap2, .agg (u8s xs).toArray, .bool a4] w fun e w' => e = .returned (.bool true) ∧ Fr [] w w') →
      Calls Ybaf.prog 3 #[.slice a0 len0 cap0, .int .u8 (sz : Int), .slice a2 len2 cap2, .agg (u8s xs).toArray, .bool a4] w fun e w' => e = .returned (.bool true) ∧ Below w.heap.size w w' :=
    fun h => h.mono fun e w' q => ⟨q.1, q.2.below (Nat.le_refl _) (by simp)⟩
  apply fin
  by_cases hgr : 1024 < len0 ∨ 1024 < len2
  · exact law_great a0 a2 len0 cap0 len2 cap2 sz (u8s xs).toArray a4 w hgr
  have h1 : len0 ≤ 1024 := by omega
  have h2 : len2 ≤ 1024 := by omega
  have hdata : len0 = 0 ∨ ∃ b o, a0 = some ⟨b, o, none⟩ ∧ ∀ j, j < len0 → w.cell? ⟨b, o + j, none⟩ = some (.int .u8 (z0.getD j 0)) := by
    rcases w0.cells with h | ⟨b, o, rfl, h⟩
    · exact .inl h
    · exact .inr ⟨b, o, rfl, fun j hj => (h j hj).1⟩
  have hlc := w0.le
  by_cases hc : len2 = 0
  · subst hc
    cases a4 with
    | true => exact law_true0 a0 a2 len0 cap0 cap2 sz xs w h1 (by omega) lx hx hlc (fun j => z0.getD j 0) (fun j => 0) hdata eo ce te hg heo
    | false => exact law_false0 a0 a2 len0 cap0 cap2 sz xs w h1 (by omega) lx hx hlc (fun j => z0.getD j 0) (fun j => 0) hdata eo ce te hg heo
  · obtain ⟨b2, o2, rfl, h⟩ := w2.cells.resolve_left hc
    cases a4 with
    | true => exact law_true1 a0 len0 cap0 len2 cap2 sz b2 o2 xs w h1 h2 (by omega) (by omega) lx hx hlc (fun j => z0.getD j 0) (fun j => z2.getD j 0) hdata h eo ce te hg heo
    | false => exact law_false1 a0 len0 cap0 len2 cap2 sz b2 o2 xs w h1 h2 (by omega) (by omega) lx hx hlc (fun j => z0.getD j 0) (fun j => z2.getD j 0) hdata h eo ce te hg heo

set_option maxRecDepth 100000 in
theorem lifted (os : Os) (started : os.Started) (H : Type) (enc : TypeId × Value → H) :
    ReturnsInTold none {} Ybaf.checked os 3 .any Input.okWide ((OpenSpec.ofChange Rows.lawS5176AReadSpec).preRow enc Ybaf.prog Ybaf.f3 [] false [("io.ErrShortBuffer", Rows.laid_io_ErrShortBuffer), ("io.EOF", Rows.laid_io_EOF), ("io.ErrUnexpectedEOF", Rows.laid_io_ErrUnexpectedEOF), ("bufio.errNegativeRead", Rows.laid_bufio_errNegativeRead)])
      (fun F => ((OpenSpec.ofChange Rows.lawS5176AReadSpec).at F).post enc Ybaf.prog Ybaf.f3 false true false false) (aloneAtReturn Ybaf.prog) nothingAlways := by
  refine returnsInTold_of_row (C := Ybaf.checked) (s := OpenSpec.ofChange Rows.lawS5176AReadSpec) (by kernel_rfl) own started (by kernel_rfl) Ybaf.func3
    (OpenSpec.witness_stopped_at (enc := enc) (C := Ybaf.checked) false (World.doorLaid Ybaf.prog 85 os) #[.slice none 0 0, .int .u8 0, .slice none 0 0, .agg #[.int .u8 0, .int .u8 0, .int .u8 0, .int .u8 0, .int .u8 0, .int .u8 0, .int .u8 0, .int .u8 0, .int .u8 0, .int .u8 0, .int .u8 0, .int .u8 0, .int .u8 0, .int .u8 0, .int .u8 0, .int .u8 0, .int .u8 0, .int .u8 0, .int .u8 0, .int .u8 0], .bool false] rfl (by kernel_rfl) (by kernel_rfl) (by kernel_rfl)
      (OpenSpec.preRow_of_B rfl 8 (by kernel_rfl) (by kernel_rfl) (door_met os _))) ?_
  intro F W base args ds gs before _ hF hval0 hW _ _ _ hL _
  have hval : ∀ (j : Nat) t v, Ybaf.f3.params[j]? = some t → args[j]? = some v → Value.okWide Ybaf.prog W .any base t v := hval0
  have hW' := hW
  obtain ⟨p, q, hA0, hV, rfl, hfz, hnd⟩ := hW
  have hA : DataW.TrodAll enc Ybaf.prog W 0 (fun _ => true) true Ybaf.f3.params.toList args.toList ds p := hA0
  rw [Ybaf.params3] at hA hval
  obtain ⟨v0, vs0, d0, ds0, p0, q0, hargs, rfl, rfl, h0, r0⟩ := trodAll_cons hA
  obtain ⟨v1, vs1, d1, ds1, p1, q1, rfl, rfl, rfl, h1, r1⟩ := trodAll_cons r0
  obtain ⟨v2, vs2, d2, ds2, p2, q2, rfl, rfl, rfl, h2, r2⟩ := trodAll_cons r1
  obtain ⟨v3, vs3, d3, ds3, p3, q3, rfl, rfl, rfl, h3, r3⟩ := trodAll_cons r2
  obtain ⟨v4, vs4, d4, ds4, p4, q4, rfl, rfl, rfl, h4, r4⟩ := trodAll_cons r3
  obtain ⟨rfl, rfl, rfl⟩ := trodAll_nil r4
  obtain rfl : args = #[v0, v1, v2, v3, v4] := by cases args; simp_all
  obtain ⟨rfl, rfl⟩ := trodVars_none hV
  obtain ⟨a0, len0, cap0, rfl⟩ := okWide_slice Ybaf.underlying22 (hval 0 22 v0 rfl rfl)
  have k0 := h0
  have lt0 : ∀ x ∈ p0, x.block < W.heap.size := by obtain ⟨m, hm⟩ := k0; exact DataW.trod_lt m _ _ _ hm
  obtain ⟨z0, w0⟩ : ∃ zs, IsRow W a0 len0 cap0 zs := by
    obtain ⟨fuel, hf⟩ := h0
    rcases open_ints Ybaf.underlying22 Ybaf.underlying5 (by kernel_rfl) hf with ⟨hcs, _⟩ | ⟨x, l, c, zs, hcs, _, hl, hm, hz, _, hcell, hwz⟩
    · simp [Value.cells] at hcs
      obtain ⟨rfl, rfl, rfl⟩ := hcs
      exact ⟨[], .inl ⟨rfl, rfl, rfl, rfl⟩⟩
    · simp [Value.cells] at hcs
      obtain ⟨rfl, rfl, rfl⟩ := hcs
      exact ⟨zs, .inr ⟨_, rfl, hl, hm, by simpa using hz, hcell, hwz⟩⟩
  obtain ⟨a1, rfl, rfl, rfl, w1⟩ := open_int Ybaf.underlying5 (hval 1 5 v1 rfl rfl) h1
  obtain ⟨a2, len2, cap2, rfl⟩ := okWide_slice Ybaf.underlying22 (hval 2 22 v2 rfl rfl)
  have k2 := h2
  have lt2 : ∀ x ∈ p2, x.block < W.heap.size := by obtain ⟨m, hm⟩ := k2; exact DataW.trod_lt m _ _ _ hm
  obtain ⟨z2, w2⟩ : ∃ zs, IsRow W a2 len2 cap2 zs := by
    obtain ⟨fuel, hf⟩ := h2
    rcases open_ints Ybaf.underlying22 Ybaf.underlying5 (by kernel_rfl) hf with ⟨hcs, _⟩ | ⟨x, l, c, zs, hcs, _, hl, hm, hz, _, hcell, hwz⟩
    · simp [Value.cells] at hcs
      obtain ⟨rfl, rfl, rfl⟩ := hcs
      exact ⟨[], .inl ⟨rfl, rfl, rfl, rfl⟩⟩
    · simp [Value.cells] at hcs
      obtain ⟨rfl, rfl, rfl⟩ := hcs
      exact ⟨zs, .inr ⟨_, rfl, hl, hm, by simpa using hz, hcell, hwz⟩⟩
  obtain ⟨cs, rfl, hsz, _⟩ : ∃ cs, v3 = .agg cs ∧ cs.size = Ybaf.prog.cellsOf 23 ∧ Row.okWide Ybaf.prog W .any base 23 cs := by
    have := hval 3 23 v3 rfl rfl
    simpa [Value.okWide, Ybaf.underlying23] using this
  obtain ⟨l⟩ := cs
  have k3 := h3
  have lt3 : ∀ x ∈ p3, x.block < W.heap.size := by obtain ⟨m, hm⟩ := k3; exact DataW.trod_lt m _ _ _ hm
  obtain ⟨xs, hl3, lx, hx⟩ : ∃ xs : List Int, l = u8s xs ∧ xs.length = 20 ∧ InU8 xs := by
    obtain ⟨fuel, hf⟩ := h3
    exact open_bytes20 hf
  subst hl3
  obtain ⟨a4, rfl, rfl, rfl⟩ := open_bool Ybaf.underlying4 (hval 4 4 v4 rfl rfl) h4
  clear hA0 hval0
  obtain ⟨eo, ce, te, hg, heo⟩ := of_laid hL
  refine (walk a0 len0 cap0 z0 a1 a2 len2 cap2 z2 xs a4 W w0 w1 w2 lx hx eo ce te hg heo).mono fun e W' ⟨he, bel⟩ => ?_
  subst he
  exact ⟨_, rfl, _, _, _, [], _, [], hW', trodAll_mk1 (shut_bool Ybaf.underlying4 _), (trodAll_cons_mk (Below.trod laidOut (by kernel_rfl) (of_decide_eq_true (by kernel_rfl)) k0 bel lt0) (trodAll_cons_mk (shut_int Ybaf.underlying5 w1) (trodAll_cons_mk (Below.trod laidOut (by kernel_rfl) (of_decide_eq_true (by kernel_rfl)) k2 bel lt2) (trodAll_cons_mk (Below.trod laidOut (by kernel_rfl) (of_decide_eq_true (by kernel_rfl)) k3 bel lt3) (trodAll_cons_mk (shut_bool Ybaf.underlying4 _) trodAll_mk0))))), rfl, bel.frame _, fun h => by cases h⟩


theorem proved : Rows.LawS5176AReadToldSaid :=
  Claim7.holds_of_told_tied_any_at .later 3 Ybaf.f3 "fmt.errorf, its operands' methods called" [] [] _ _ _ _ _ (by kernel_rfl) rfl rfl rfl laidOut' (by kernel_rfl) rfl ⟨rfl, rfl, rfl, rfl, rfl, rfl, rfl⟩ rfl rfl (by kernel_rfl) (by kernel_rfl) Ybaf.func3 (by kernel_rfl)
    (of_decide_eq_true (by kernel_rfl)) (of_decide_eq_true (by kernel_rfl)) stops.symm rfl stopKnobs.symm (by kernel_rfl)
    (by kernel_rfl) (by kernel_rfl) (by kernel_rfl) (by kernel_rfl) (by kernel_rfl) (by kernel_rfl) (by kernel_rfl) (by kernel_rfl) (by kernel_rfl) rfl (by kernel_rfl) rfl rfl
    rfl rfl
    rfl (by kernel_rfl) (by kernel_rfl) (by kernel_rfl) (by decide) (by kernel_rfl) lawS5176ARead_row_tie
    (OpenClaim.moreEntering_of (by kernel_rfl) (by kernel_rfl) (by kernel_rfl) (by kernel_rfl) (by kernel_rfl) (by kernel_rfl) (by kernel_rfl) (by kernel_rfl) (by kernel_rfl) (by kernel_rfl))
    ⟨_, WideRow.started_initial, quiet _⟩
    (fun os started _ H enc _ => lifted os started H enc)

end Go.Proofs.YbulkdcecFmt.read
