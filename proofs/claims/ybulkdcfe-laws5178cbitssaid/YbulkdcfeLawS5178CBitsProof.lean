/-
  THE SHELL OF A PROOF OF 'Rows.LawS5178CBitsSaid' ('example.com/bytecairn/bytecairn/pkg/library.LawS5178CBits'), WRITTEN BY PROGRAM (proof-skeleton.mjs) off the guide's own print for that function. Not trusted: Lean checks it.
  ALL ELSE IS THE GUIDE's TEMPLATE (howto/template/XProofs.lean) at this function's number and types: leave it.
-/
import Derived.Test.YbulkdcfeBits
import Derived.WalkKit
import Derived.ProofKit
import Derived.OpenShut
import Derived.ShutString
namespace Go.Proofs.Ybulkdcfe.lawS5178CBits
open Go.ChangeShapes Go.WideShapes Go.ChangeAt Go.RowKit
open Go.ChangeMaps (open_string shut_string)
set_option linter.unusedVariables false      -- a walk need not use every 'w<i>' (that an integer argument fits its kind)

theorem own : ownKnob Yba.prog.godebug = none := by kernel_rfl

/-! ### STEP 1: THE WALK: the Go text returns true. 'Grown w w'': the world has at most new blocks (Derived/RowKit3.lean). Part the cases AHEAD of 'go_enter' where a test parts the walk; take each callee by a contract of your own. -/
theorem walk (a0 : Bool) (a1 : Int) (a2 : Int) (a3 : Int) (w1 : (Lit.int .u8 a1).wf = true) (w2 : (Lit.int .u16 a2).wf = true) (w3 : (Lit.int .u64 a3).wf = true) (w : World) :
    Calls Yba.prog 3 #[.bool a0, .int .u8 a1, .int .u16 a2, .int .u64 a3] w fun e w' => e = .returned (.bool true) ∧ Grown w w' := by
  simp only [Lit.wf, IntKind.min, IntKind.max, IntKind.signed, IntKind.bits, Bool.and_eq_true] at w1 w2 w3
  simp at w1 w2 w3
  obtain ⟨n1, rfl⟩ : ∃ n : Nat, a1 = n := Int.eq_ofNat_of_zero_le (by omega)
  obtain ⟨n2, rfl⟩ : ∃ n : Nat, a2 = n := Int.eq_ofNat_of_zero_le (by omega)
  obtain ⟨n3, rfl⟩ : ∃ n : Nat, a3 = n := Int.eq_ofNat_of_zero_le (by omega)
  have b3 : n3 < 2 ^ 64 := by omega
  have hand := and_u64 n3 b3
  have hw2 : IntKind.u64.wrap (n2 : Int) = (n2 : Int) := wrap_nat _ (by omega)
  have h5 := e5
  clear w1 w2 w3
  cases a0 <;> by_cases hs : n1 % 3 = 0
  · go_enter Yba.func3, Yba.ntmps3
    go_wp2_with (go_at_call 4; refine (orderBits_any _ _).mono ?_; rintro e w' ⟨rfl, rfl⟩)
    all_goals
      go_ret
      refine ⟨congrArg (fun b => Ending.returned (Value.bool b)) ?_, Grown.refl _⟩
      try simp only [bne_iff_ne, ne_eq, bne_eq_false_iff_eq] at *
      first
        | (refine end_nan 0 2047 (n3 % 4503599627370496) _ (word 0 2047 (n3 % 4503599627370496) _ _ _ ?_ ?_ ?_ ?_ ?_ ?_) ?_ ?_ ?_ ?_ <;> omega)
        | (refine end_plain 0 2047 (n3 % 4503599627370496) _ (word 0 2047 (n3 % 4503599627370496) _ _ _ ?_ ?_ ?_ ?_ ?_ ?_) ?_ ?_ ?_ ?_ <;> omega)
  · go_enter Yba.func3, Yba.ntmps3
    go_wp2_with (go_at_call 4; refine (orderBits_any _ _).mono ?_; rintro e w' ⟨rfl, rfl⟩)
    all_goals
      go_ret
      refine ⟨congrArg (fun b => Ending.returned (Value.bool b)) ?_, Grown.refl _⟩
      try simp only [bne_iff_ne, ne_eq, bne_eq_false_iff_eq] at *
      first
        | (refine end_nan 0 (n2 % 2048) (n3 % 4503599627370496) _ (word 0 (n2 % 2048) (n3 % 4503599627370496) _ _ _ ?_ ?_ ?_ ?_ ?_ ?_) ?_ ?_ ?_ ?_ <;> omega)
        | (refine end_plain 0 (n2 % 2048) (n3 % 4503599627370496) _ (word 0 (n2 % 2048) (n3 % 4503599627370496) _ _ _ ?_ ?_ ?_ ?_ ?_ ?_) ?_ ?_ ?_ ?_ <;> omega)
  · go_enter Yba.func3, Yba.ntmps3
    go_wp2_with (go_at_call 4; refine (orderBits_any _ _).mono ?_; rintro e w' ⟨rfl, rfl⟩)
    all_goals
      go_ret
      refine ⟨congrArg (fun b => Ending.returned (Value.bool b)) ?_, Grown.refl _⟩
      try simp only [bne_iff_ne, ne_eq, bne_eq_false_iff_eq] at *
      first
        | (refine end_nan 9223372036854775808 2047 (n3 % 4503599627370496) _ (word 9223372036854775808 2047 (n3 % 4503599627370496) _ _ _ ?_ ?_ ?_ ?_ ?_ ?_) ?_ ?_ ?_ ?_ <;> omega)
        | (refine end_plain 9223372036854775808 2047 (n3 % 4503599627370496) _ (word 9223372036854775808 2047 (n3 % 4503599627370496) _ _ _ ?_ ?_ ?_ ?_ ?_ ?_) ?_ ?_ ?_ ?_ <;> omega)
  · go_enter Yba.func3, Yba.ntmps3
    go_wp2_with (go_at_call 4; refine (orderBits_any _ _).mono ?_; rintro e w' ⟨rfl, rfl⟩)
    all_goals
      go_ret
      refine ⟨congrArg (fun b => Ending.returned (Value.bool b)) ?_, Grown.refl _⟩
      try simp only [bne_iff_ne, ne_eq, bne_eq_false_iff_eq] at *
      first
        | (refine end_nan 9223372036854775808 (n2 % 2048) (n3 % 4503599627370496) _ (word 9223372036854775808 (n2 % 2048) (n3 % 4503599627370496) _ _ _ ?_ ?_ ?_ ?_ ?_ ?_) ?_ ?_ ?_ ?_ <;> omega)
        | (refine end_plain 9223372036854775808 (n2 % 2048) (n3 % 4503599627370496) _ (word 9223372036854775808 (n2 % 2048) (n3 % 4503599627370496) _ _ _ ?_ ?_ ?_ ?_ ?_ ?_) ?_ ?_ ?_ ?_ <;> omega)

/-! ### THE ROW's STEP: WRITTEN OUT: LEAVE IT -/
set_option maxRecDepth 100000 in
theorem lifted (os : Os) (started : os.Started) (H : Type) (enc : TypeId × Value → H) :
    ReturnsInHanded {} Yba.checked os 3 .any (Rows.lawS5178CBitsSpec.pre6 enc Yba.prog Yba.f3 Rows.lawS5178CBitsRow.domain false) (Rows.lawS5178CBitsSpec.post enc Yba.prog Yba.f3 false true false false) := by
  refine returnsInHanded_of_change (C := Yba.checked) own started (by kernel_rfl) Yba.func3
    (ChangeSpec.witness6 (enc := enc) (C := Yba.checked) false ⟨#[], #[.bool false, .int .u8 0, .int .u16 0, .int .u64 0], []⟩ 8 (by kernel_rfl) (by kernel_rfl) (by kernel_rfl) (by kernel_rfl)) ?_
  intro W base args ds gs before hval0 hW hcnd _
  have hval : ∀ (j : Nat) t v, Yba.f3.params[j]? = some t → args[j]? = some v → Value.okWide Yba.prog W .any base t v := hval0
  have hW' := hW
  obtain ⟨p, q, hA0, hV, rfl, hfz, hnd⟩ := hW
  have hA : DataW.TrodAll enc Yba.prog W 0 (fun _ => true) true Yba.f3.params.toList args.toList ds p := hA0
  rw [Yba.params3] at hA hval
  obtain ⟨v0, vs0, d0, ds0, p0, q0, hargs, rfl, rfl, h0, r0⟩ := trodAll_cons hA
  obtain ⟨v1, vs1, d1, ds1, p1, q1, rfl, rfl, rfl, h1, r1⟩ := trodAll_cons r0
  obtain ⟨v2, vs2, d2, ds2, p2, q2, rfl, rfl, rfl, h2, r2⟩ := trodAll_cons r1
  obtain ⟨v3, vs3, d3, ds3, p3, q3, rfl, rfl, rfl, h3, r3⟩ := trodAll_cons r2
  obtain ⟨rfl, rfl, rfl⟩ := trodAll_nil r3
  obtain rfl : args = #[v0, v1, v2, v3] := by cases args; simp_all
  obtain ⟨rfl, rfl⟩ := trodVars_none hV
  obtain ⟨a0, rfl, rfl, rfl⟩ := open_bool Yba.underlying4 (hval 0 4 v0 rfl rfl) h0
  obtain ⟨a1, rfl, rfl, rfl, w1⟩ := open_int Yba.underlying5 (hval 1 5 v1 rfl rfl) h1
  obtain ⟨a2, rfl, rfl, rfl, w2⟩ := open_int Yba.underlying22 (hval 2 22 v2 rfl rfl) h2
  obtain ⟨a3, rfl, rfl, rfl, w3⟩ := open_int Yba.underlying23 (hval 3 23 v3 rfl rfl) h3
  clear hA0 hval0
  simp only [List.append_nil] at hW'
  refine (walk a0 a1 a2 a3 w1 w2 w3 W).mono fun e W' ⟨he, hg⟩ => ?_
  subst he
  exact ⟨_, rfl, post_of_same (pa := []) (pv := []) hW' (fun _ _ _ => (trodAll_cons_mk (shut_bool Yba.underlying4 _) trodAll_mk0)) (fun sp _ => (trodAll_cons_mk (shut_bool Yba.underlying4 _) (trodAll_cons_mk (shut_int Yba.underlying5 w1) (trodAll_cons_mk (shut_int Yba.underlying22 w2) (trodAll_cons_mk (shut_int Yba.underlying23 w3) trodAll_mk0))))) (fun _ _ => rfl) rfl
    (hg.frame _) hg.2.1 (ok_one (by kernel_rfl) rfl (okWide_bool_mk Yba.underlying4 _))⟩

theorem over : Rows.lawS5178CBitsRow.holds Yba.pinned (OpenSpec.ofChange Rows.lawS5178CBitsSpec) :=
  OpenClaim.holds_of_wide 3 Yba.f3 rfl rfl rfl rfl rfl rfl rfl ⟨rfl, rfl, rfl, rfl, rfl⟩ rfl rfl rfl rfl rfl (by kernel_rfl) Yba.func3 (by kernel_rfl)
    (of_decide_eq_true (by kernel_rfl)) (by unfold Func.isWrapper; first | (rw [if_pos (by decide +kernel)]; kernel_rfl) | (rw [if_neg (by decide +kernel)]; exact ⟨rfl, rfl⟩))
    (fun os started H enc _ => lifted os started H enc)

/-- ████ THE STATEMENT ████ -/
theorem proved : Rows.LawS5178CBitsSaid :=
  over
end Go.Proofs.Ybulkdcfe.lawS5178CBits
