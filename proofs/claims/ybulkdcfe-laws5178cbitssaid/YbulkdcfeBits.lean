import Derived.Test.YbulkdcfeRows
import Derived.WalkKit
import Derived.ProofKit
import Derived.Laws.Cover2
import Derived.Laws.Externs
namespace Go.Proofs.Ybulkdcfe
set_option linter.unusedVariables false
set_option linter.unusedSimpArgs false

theorem wrap_nat (n : Nat) (h : n < 18446744073709551616) : IntKind.u64.wrap (n : Int) = (n : Int) := by
  simp [go_sem, IntKind.wrap_u64]
  omega

theorem or_bv (a b : Nat) (ha : a < 2 ^ 64) (hb : b < 2 ^ 64) : (BitVec.ofInt 64 (a : Int) ||| BitVec.ofInt 64 (b : Int)).toNat = a ||| b := by
  have e : ∀ n : Nat, n < 2 ^ 64 → (BitVec.ofInt 64 (n : Int)).toNat = n := by
    intro n hn
    rw [BitVec.toNat_ofInt]
    simp only [Nat.reducePow] at hn ⊢
    omega
  rw [BitVec.toNat_or, e a ha, e b hb]

theorem and_bv (a b : Nat) (ha : a < 2 ^ 64) (hb : b < 2 ^ 64) : (BitVec.ofInt 64 (a : Int) &&& BitVec.ofInt 64 (b : Int)).toNat = a &&& b := by
  have e : ∀ n : Nat, n < 2 ^ 64 → (BitVec.ofInt 64 (n : Int)).toNat = n := by
    intro n hn
    rw [BitVec.toNat_ofInt]
    simp only [Nat.reducePow] at hn ⊢
    omega
  rw [BitVec.toNat_and, e a ha, e b hb]

/-- '|' at uint64 of naturals below 2^64. -/
theorem or_u64 (a b : Nat) (ha : a < 2 ^ 64) (hb : b < 2 ^ 64) : bits .or .u64 (a : Int) (b : Int) = ((a ||| b : Nat) : Int) := by
  have h : a ||| b < 2 ^ 64 := Nat.or_lt_two_pow ha hb
  have e := or_bv a b ha hb
  show IntKind.u64.wrap (((BitVec.ofInt 64 (a : Int) ||| BitVec.ofInt 64 (b : Int)).toNat : Nat) : Int) = _
  rw [e]
  exact wrap_nat _ (by simpa using h)

theorem and_u64 (a : Nat) (ha : a < 2 ^ 64) : bits .and .u64 (a : Int) 4503599627370495 = ((a % 4503599627370496 : Nat) : Int) := by
  have e : a &&& (2 ^ 52 - 1) = a % 2 ^ 52 := Nat.and_two_pow_sub_one_eq_mod a 52
  have e2 := and_bv a (2 ^ 52 - 1) ha (by decide)
  show IntKind.u64.wrap (((BitVec.ofInt 64 (a : Int) &&& BitVec.ofInt 64 ((2 ^ 52 - 1 : Nat) : Int)).toNat : Nat) : Int) = _
  rw [e2, e]
  exact wrap_nat _ (by omega)

theorem or_add (k a b : Nat) (h : b < 2 ^ k) : (2 ^ k * a) ||| b = 2 ^ k * a + b := (Nat.two_pow_add_eq_or_of_lt h a).symm

theorem order_refl (d : Ieee.Datum) : (d.order d != some .eq) = d.isNaN := by
  cases d <;> simp [Ieee.Datum.order, Ieee.Datum.isNaN]

theorem nan_iff (f : Ieee.Format) (x : Nat) (h : f.binade ≤ f.infRung) : (f.read x).isNaN = decide (f.infRung < x % f.signWeight) := by
  unfold Ieee.Format.read
  dsimp only
  generalize x % f.signWeight = r
  by_cases h1 : r < f.binade
  · rw [if_pos h1]
    exact (decide_eq_false (by omega)).symm
  rw [if_neg h1]
  by_cases h2 : r < f.infRung
  · rw [if_pos h2]
    exact (decide_eq_false (by omega)).symm
  rw [if_neg h2]
  by_cases h3 : r = f.infRung
  · rw [if_pos h3]
    exact (decide_eq_false (by omega)).symm
  rw [if_neg h3]
  exact (decide_eq_true (by omega)).symm

/-- A double's bits against themselves: not equal just at a NaN. -/
theorem order_self (x : Nat) : (Ieee.double.order x x != some .eq) = decide (9218868437227405312 < x % 9223372036854775808) :=
  (order_refl _).trans (nan_iff Ieee.double x (by decide))

theorem e5 (n : Int) (w : World) : (callFunc 5 #[.int .u64 n]).run Yba.prog w = .ok (.value (.float .f64 n.toNat)) w :=
  run_callFunc_extern (e := Extern.MathFloatBits.float64frombits) Yba.func5 (by kernel_rfl) (by kernel_rfl) (by kernel_rfl) (by kernel_rfl) _ w
theorem e6 (n : Nat) (w : World) : (callFunc 6 #[.float .f64 n]).run Yba.prog w = .ok (.value (.int .u64 (n : Int))) w :=
  run_callFunc_extern (e := Extern.MathFloatBits.float64bits) Yba.func6 (by kernel_rfl) (by kernel_rfl) (by kernel_rfl) (by kernel_rfl) _ w

theorem orderBits_nan (x : Nat) (w : World) (h : 9218868437227405312 < x % 9223372036854775808) :
    Calls Yba.prog 4 #[.float .f64 x] w fun e w' => e = .returned (.int .i64 9221120237041090560) ∧ w' = w := by
  have ho : (FloatKind.f64.format.order x x != some .eq) = true := (order_self x).trans (decide_eq_true h)
  go_enter Yba.func4, Yba.ntmps4
  go_wp2_with (simp only [ho])
  all_goals (go_ret; exact ⟨rfl, rfl⟩)

theorem orderBits_plain (x : Nat) (w : World) (h : ¬ 9218868437227405312 < x % 9223372036854775808) :
    Calls Yba.prog 4 #[.float .f64 x] w fun e w' => e = .returned (.int .i64 (RowKit.wrap64 (x : Int))) ∧ w' = w := by
  have ho : (FloatKind.f64.format.order x x != some .eq) = false := (order_self x).trans (decide_eq_false h)
  have h6 := e6
  go_enter Yba.func4, Yba.ntmps4
  go_wp2_with (simp only [ho])
  all_goals (go_ret; exact ⟨rfl, rfl⟩)

def ob (n : Nat) : Int := if 9218868437227405312 < n % 9223372036854775808 then 9221120237041090560 else RowKit.wrap64 (n : Int)

theorem orderBits_any (x : Nat) (w : World) : Calls Yba.prog 4 #[.float .f64 x] w fun e w' => e = .returned (.int .i64 (ob x)) ∧ w' = w := by
  unfold ob
  split
  · exact orderBits_nan x w (by assumption)
  · exact orderBits_plain x w (by assumption)

theorem word (S E M : Nat) (s sh m : Int) (hs : s = (S : Int)) (hsh : sh = ((E * 4503599627370496 : Nat) : Int)) (hm : m = (M : Int))
    (hS : S = 0 ∨ S = 9223372036854775808) (hE : E < 2048) (hM : M < 4503599627370496) :
    bits .or .u64 (bits .or .u64 s sh) m = ((S + E * 4503599627370496 + M : Nat) : Int) := by
  subst hs hsh hm
  rw [or_u64 S (E * 4503599627370496) (by omega) (by omega)]
  have e1 : S ||| (E * 4503599627370496) = S + E * 4503599627370496 := by
    rcases hS with rfl | rfl
    · simp
    · have := or_add 63 1 (E * 4503599627370496) (by omega)
      simpa using this
  rw [e1, or_u64 _ _ (by omega) (by omega)]
  have e2 : (S + E * 4503599627370496) ||| M = S + E * 4503599627370496 + M := by
    obtain ⟨k, hk⟩ : ∃ k, S + E * 4503599627370496 = 2 ^ 52 * k := by
      rcases hS with rfl | rfl
      · exact ⟨E, by omega⟩
      · exact ⟨2048 + E, by omega⟩
    rw [hk]
    exact or_add 52 k M (by omega)
  rw [e2]

theorem end_nan (S E M : Nat) (X : Int) (hX : X = ((S + E * 4503599627370496 + M : Nat) : Int)) (hS : S = 0 ∨ S = 9223372036854775808) (hE : E = 2047) (hM : M < 4503599627370496) (h0 : M ≠ 0) :
    (ob X.toNat == 9221120237041090560) = true := by
  subst hX hE
  rw [Int.toNat_natCast, beq_iff_eq]
  unfold ob
  rw [if_pos (by omega)]

theorem end_plain (S E M : Nat) (X : Int) (hX : X = ((S + E * 4503599627370496 + M : Nat) : Int)) (hS : S = 0 ∨ S = 9223372036854775808) (hE : E < 2048) (hM : M < 4503599627370496) (h0 : E ≠ 2047 ∨ M = 0) :
    (ob X.toNat == RowKit.wrap64 X) = true := by
  subst hX
  rw [Int.toNat_natCast, beq_iff_eq]
  unfold ob
  rw [if_neg (by omega)]
end Go.Proofs.Ybulkdcfe
