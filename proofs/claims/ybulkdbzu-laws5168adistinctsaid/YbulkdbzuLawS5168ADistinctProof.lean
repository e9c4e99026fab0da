/-
  THE SHELL OF A PROOF OF 'Rows.LawS5168ADistinctSaid' ('example.com/typeweft/typeweft.LawS5168ADistinct'), WRITTEN BY PROGRAM (proof-skeleton.mjs) off the guide's own print for that function. Not trusted: Lean checks it.
  The walk is filled in by hand. ALL ELSE IS THE GUIDE's TEMPLATE (howto/template/XProofs.lean) at this function's number and types.
-/
import Derived.Test.YbulkdbzuRows
import Derived.WalkKit
import Derived.ProofKit
import Derived.OpenShut
import Derived.ShutString
namespace Go.Proofs.Ybulkdbzu.lawS5168ADistinct
open Go.ChangeShapes Go.WideShapes Go.ChangeAt Go.RowKit
open Go.ChangeMaps (open_string shut_string)
set_option linter.unusedVariables false      -- a walk need not use every 'w<i>' (that an integer argument fits its kind)

theorem own : ownKnob Yba.prog.godebug = none := by kernel_rfl

/-! ### STEP 0: 'Bool(b)': the struct of seven cells; the world has two new blocks. -/
theorem bool_any (b : Bool) (w : World) :
    Calls Yba.prog 5 #[.bool b] w fun e w' => e = .returned (.agg #[.int .u8 2, .int .u8 0, .int .i16 0, .int .i32 0, .int .u64 (if b then 1 else 0), .string ⟨#[]⟩, .nilIface]) ∧
      w' = (w.alloc (.cells #[.int .u8 2, .int .u8 0, .int .i16 0, .int .i32 0, .int .u64 (if b then 1 else 0), .string ⟨#[]⟩, .nilIface] 26)).alloc (.cells #[.int .u8 2, .int .u8 0, .int .i16 0, .int .i32 0, .int .u64 (if b then 1 else 0), .string ⟨#[]⟩, .nilIface] 26) := by
  cases b
  · go_enter Yba.func5, Yba.ntmps5
    go_wp2
    exact bodyPost_ret (v := .agg #[.int .u8 2, .int .u8 0, .int .i16 0, .int .i32 0, .int .u64 0, .string ⟨#[]⟩, .nilIface]) (by simp [results, Yba.results5, go_sem]) rfl ⟨rfl, rfl⟩
  · go_enter Yba.func5, Yba.ntmps5
    go_wp2
    exact bodyPost_ret (v := .agg #[.int .u8 2, .int .u8 0, .int .i16 0, .int .i32 0, .int .u64 1, .string ⟨#[]⟩, .nilIface]) (by simp [results, Yba.results5, go_sem]) rfl ⟨rfl, rfl⟩

/-! ### STEP 1: THE WALK: the Go text returns true. 'Grown w w'': the world has at most new blocks (Derived/RowKit3.lean). Part the cases AHEAD of 'go_enter' where a test parts the walk; take each callee by a contract of your own. -/
theorem walk (a0 : Bool) (w : World) :
    Calls Yba.prog 4 #[.bool a0] w fun e w' => e = .returned (.bool true) ∧ Grown w w' := by
  cases a0
  all_goals
    go_enter Yba.func4, Yba.ntmps4
    go_wp2_with (go_at_call 5; refine (bool_any _ _).mono ?_; rintro e w' ⟨rfl, rfl⟩)
    go_ret
    exact ⟨rfl, by repeat (first | exact Grown.refl _ | assumption | apply Grown.drew | apply Grown.alloc)⟩

/-! ### THE ROW's STEP: WRITTEN OUT: LEAVE IT -/
set_option maxRecDepth 100000 in
theorem lifted (os : Os) (started : os.Started) (H : Type) (enc : TypeId × Value → H) :
    ReturnsInHanded {} Yba.checked os 4 .any (Rows.lawS5168ADistinctSpec.pre6 enc Yba.prog Yba.f4 Rows.lawS5168ADistinctRow.domain false) (Rows.lawS5168ADistinctSpec.post enc Yba.prog Yba.f4 false true false false) := by
  refine returnsInHanded_of_change (C := Yba.checked) own started (by kernel_rfl) Yba.func4
    (ChangeSpec.witness6 (enc := enc) (C := Yba.checked) false ⟨#[], #[.bool false], []⟩ 8 (by kernel_rfl) (by kernel_rfl) (by kernel_rfl) (by kernel_rfl)) ?_
  intro W base args ds gs before hval0 hW hcnd _
  have hval : ∀ (j : Nat) t v, Yba.f4.params[j]? = some t → args[j]? = some v → Value.okWide Yba.prog W .any base t v := hval0
  have hW' := hW
  obtain ⟨p, q, hA0, hV, rfl, hfz, hnd⟩ := hW
  have hA : DataW.TrodAll enc Yba.prog W 0 (fun _ => true) true Yba.f4.params.toList args.toList ds p := hA0
  rw [Yba.params4] at hA hval
  obtain ⟨v0, vs0, d0, ds0, p0, q0, hargs, rfl, rfl, h0, r0⟩ := trodAll_cons hA
  obtain ⟨rfl, rfl, rfl⟩ := trodAll_nil r0
  obtain rfl : args = #[v0] := by cases args; simp_all
  obtain ⟨rfl, rfl⟩ := trodVars_none hV
  obtain ⟨a0, rfl, rfl, rfl⟩ := open_bool Yba.underlying4 (hval 0 4 v0 rfl rfl) h0
  clear hA0 hval0
  simp only [List.append_nil] at hW'
  refine (walk a0 W).mono fun e W' ⟨he, hg⟩ => ?_
  subst he
  exact ⟨_, rfl, post_of_same (pa := []) (pv := []) hW' (fun _ _ _ => (trodAll_cons_mk (shut_bool Yba.underlying4 _) trodAll_mk0)) (fun sp _ => (trodAll_cons_mk (shut_bool Yba.underlying4 _) trodAll_mk0)) (fun _ _ => rfl) rfl
    (hg.frame _) hg.2.1 (ok_one (by kernel_rfl) rfl (okWide_bool_mk Yba.underlying4 _))⟩

theorem over : Rows.lawS5168ADistinctRow.holds Yba.pinned (OpenSpec.ofChange Rows.lawS5168ADistinctSpec) :=
  OpenClaim.holds_of_wide 4 Yba.f4 rfl rfl rfl rfl rfl rfl rfl ⟨rfl, rfl, rfl, rfl, rfl⟩ rfl rfl rfl rfl rfl (by kernel_rfl) Yba.func4 (by kernel_rfl)
    (of_decide_eq_true (by kernel_rfl)) (by unfold Func.isWrapper; first | (rw [if_pos (by decide +kernel)]; kernel_rfl) | (rw [if_neg (by decide +kernel)]; exact ⟨rfl, rfl⟩))
    (fun os started H enc _ => lifted os started H enc)

/-- ████ THE STATEMENT ████ -/
theorem proved : Rows.LawS5168ADistinctSaid :=
  over
end Go.Proofs.Ybulkdbzu.lawS5168ADistinct
