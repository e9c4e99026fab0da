/-
  (*looseReader).end (9) at the end of the data.
-/
import Derived.Test.YbulkdcecFmtEnd
import Derived.Stop.BytesEq
import Derived.Deep.MidRow
namespace Go.Proofs.YbulkdcecFmt
open Go.RowKit Go.Extern.Stop Go.Stop Go.Extern
set_option linter.unusedVariables false
set_option linter.unusedSimpArgs false

theorem size5 (w : World) : (sizeOf 5).run Ybaf.prog w = .ok 1 w := by kernel_rfl
theorem under24 : Ybaf.prog.underlying 24 = some (.array 20 5) := by kernel_rfl
theorem under5 : Ybaf.prog.underlying 5 = some (.int .u8) := by kernel_rfl
theorem guard24 : Ybaf.prog.eqGuardType Ybaf.prog.depth 24 = false := by kernel_rfl

theorem u8s_cell (xs : List Int) (h : InU8 xs) : ((xs.map fun x => x.toNat.toUInt8).map cell) = u8s xs := by
  simp only [u8s, List.map_map]
  apply List.map_congr_left
  intro x hx
  obtain ⟨h0, h1⟩ := h x hx
  have : x.toNat.toUInt8.toNat = x.toNat := by simp [Nat.toUInt8]; omega
  simp [cell, this]
  omega

theorem toU8_inj : ∀ (xs ys : List Int), InU8 xs → InU8 ys → ((xs.map fun x => x.toNat.toUInt8) == (ys.map fun x => x.toNat.toUInt8)) = (xs == ys)
  | [], [], _, _ => rfl
  | [], _ :: _, _, _ => rfl
  | _ :: _, [], _, _ => rfl
  | x :: xs, y :: ys, h, k => by
    have ih := toU8_inj xs ys (fun a ha => h a (List.mem_cons_of_mem _ ha)) (fun a ha => k a (List.mem_cons_of_mem _ ha))
    have hx := h x (by simp)
    have hy := k y (by simp)
    have e : (x.toNat.toUInt8 == y.toNat.toUInt8) = (x == y) := by
      rw [Bool.eq_iff_iff]
      simp only [beq_iff_eq, ← UInt8.toNat_inj]
      have h1 : x.toNat.toUInt8.toNat = x.toNat := by simp [Nat.toUInt8]; omega
      have h2 : y.toNat.toUInt8.toNat = y.toNat := by simp [Nat.toUInt8]; omega
      rw [h1, h2]
      omega
    simp only [List.map_cons, List.cons_beq_cons, ih, e]

theorem equalIn24 (xs ys : List Int) (hx : InU8 xs) (hy : InU8 ys) (lx : xs.length = 20) (ly : ys.length = 20) (w : World) :
    (Op.equalIn 10000 24 (.agg (u8s xs).toArray) (.agg (u8s ys).toArray)).run Ybaf.prog w = .ok (xs == ys) w := by
  rw [← u8s_cell xs hx, ← u8s_cell ys hy, run_equalIn_bytes w 9998 24 5 20 under24 under5 size5 _ _ (by simpa using lx) (by simpa using ly), toU8_inj xs ys hx hy]

/-- '!=' out of '=='. -/
theorem neq_of_eql {t : TypeId} {d d' : TypeId} {x y : Value} {b : Bool} {w : World} (h : (binOp .eql t (.iface d x) (.iface d' y)).run Ybaf.prog w = .ok (.bool b) w) :
    (binOp .neq t (.iface d x) (.iface d' y)).run Ybaf.prog w = .ok (.bool (!b)) w := by
  simp only [binOp, Sem.run_bind] at h ⊢
  cases hr : Sem.run Ybaf.prog (Op.equal t (.iface d x) (.iface d' y)) w with
  | ok v w' =>
    rw [hr] at h
    simp at h
    obtain ⟨rfl, rfl⟩ := h
    simp
  | _ => rw [hr] at h; simp at h
theorem neq_same (a : Addr) (w : World) : (binOp .neq 41 (.iface 65 (.pointer (some a))) (.iface 65 (.pointer (some a)))).run Ybaf.prog w = .ok (.bool false) w := neq_of_eql (eq_same a w)

end Go.Proofs.YbulkdcecFmt
