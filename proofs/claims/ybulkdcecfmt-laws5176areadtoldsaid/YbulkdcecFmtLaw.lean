/-
  LawS5176ARead (3): the walk.
-/
import Derived.Test.YbulkdcecFmtSt
namespace Go.Proofs.YbulkdcecFmt
open Go.RowKit Go.Extern.Stop Go.Stop Go.Extern
set_option linter.unusedVariables false
set_option linter.unusedSimpArgs false

theorem law_great (a a2 : Option Addr) (len cap clen ccap : Nat) (sz : Int) (ds : Array Value) (mt : Bool) (w : World) (h : 1024 < len ∨ 1024 < clen) :
    Calls Ybaf.prog 3 #[.slice a len cap, .int .u8 sz, .slice a2 clen ccap, .agg ds, .bool mt] w fun e w' => e = .returned (.bool true) ∧ Fr [] w w' := by
  by_cases h1 : 1024 < len
  · have h1' : (len : Int) > 1024 := by omega
    go_enter Ybaf.func3, Ybaf.ntmps3
    go_wp2_with fail
    go_ret
    exact ⟨rfl, (Fr.refl _ _).alloc _⟩
  · have h1' : ¬ ((len : Int) > 1024) := by omega
    have h2' : (clen : Int) > 1024 := by omega
    go_enter Ybaf.func3, Ybaf.ntmps3
    go_wp2_with fail
    go_ret
    exact ⟨rfl, (Fr.refl _ _).alloc _⟩

/-- What holds at the loop's head. -/
def LRel (w : World) (hb lb base len cap size : Nat) (a : Option Addr) (z : Nat → Int) (xs ys : List Int) (got er dn i : Value) (wr : World) : Prop :=
  ∃ (pos k : Nat) (lv : Value), er = .nilIface ∧ dn = .bool false ∧ i = .int .i64 (k : Int) ∧ k ≤ pos ∧ pos ≤ len ∧ pos ≤ size ∧ St w hb lb base size z xs ys pos pos lv got wr ∧ RD wr (hb + 1) (hb + 2) (hb + 2 + 1) a len cap z pos


end Go.Proofs.YbulkdcecFmt
