/-
  What the law's own first lines make: closed facts over the program's tables, at whatever bytes.
-/
import Derived.Test.YbulkdcecFmtEqual
namespace Go.Proofs.YbulkdcecFmt
open Go.RowKit Go.Extern.Stop Go.Stop Go.Extern
set_option linter.unusedVariables false
set_option linter.unusedSimpArgs false

theorem twenty : ∀ l : List Value, l.length = 20 → ∃ x0 x1 x2 x3 x4 x5 x6 x7 x8 x9 x10 x11 x12 x13 x14 x15 x16 x17 x18 x19, l = [x0, x1, x2, x3, x4, x5, x6, x7, x8, x9, x10, x11, x12, x13, x14, x15, x16, x17, x18, x19]
  | [x0, x1, x2, x3, x4, x5, x6, x7, x8, x9, x10, x11, x12, x13, x14, x15, x16, x17, x18, x19], _ => ⟨x0, x1, x2, x3, x4, x5, x6, x7, x8, x9, x10, x11, x12, x13, x14, x15, x16, x17, x18, x19, rfl⟩

theorem build27_at (x0 x1 x2 x3 x4 x5 x6 x7 x8 x9 x10 x11 x12 x13 x14 x15 x16 x17 x18 x19 : Value) (w : World) : (Instr.build 27 #[(1, .agg #[x0, x1, x2, x3, x4, x5, x6, x7, x8, x9, x10, x11, x12, x13, x14, x15, x16, x17, x18, x19])]).run Ybaf.prog w = .ok (.agg #[.slice none 0 0, x0, x1, x2, x3, x4, x5, x6, x7, x8, x9, x10, x11, x12, x13, x14, x15, x16, x17, x18, x19]) w := by kernel_rfl
theorem build39_at (x0 x1 x2 x3 x4 x5 x6 x7 x8 x9 x10 x11 x12 x13 x14 x15 x16 x17 x18 x19 : Value) (a0 : ByteArray) (s1 s2 : Int) (p : Option Addr) (q : Value) (w : World) : (Instr.build 39 #[(0, .agg #[x0, x1, x2, x3, x4, x5, x6, x7, x8, x9, x10, x11, x12, x13, x14, x15, x16, x17, x18, x19]), (1, .string a0), (2, .int .i64 s1), (3, .int .i64 s2), (6, .pointer p), (7, .iface 25 q)]).run Ybaf.prog w =
    .ok (.agg #[x0, x1, x2, x3, x4, x5, x6, x7, x8, x9, x10, x11, x12, x13, x14, x15, x16, x17, x18, x19, .string a0, .int .i64 s1, .int .i64 s2, .pointer none, .nilIface, .pointer p, .iface 25 q]) w := by kernel_rfl

theorem build27 (cs : List Value) (h : cs.length = 20) (w : World) : (Instr.build 27 #[(1, .agg cs.toArray)]).run Ybaf.prog w = .ok (.agg (hs (.slice none 0 0) cs)) w := by
  obtain ⟨x0, x1, x2, x3, x4, x5, x6, x7, x8, x9, x10, x11, x12, x13, x14, x15, x16, x17, x18, x19, rfl⟩ := twenty cs h
  exact build27_at x0 x1 x2 x3 x4 x5 x6 x7 x8 x9 x10 x11 x12 x13 x14 x15 x16 x17 x18 x19 w
theorem build39 (ids : List Value) (h : ids.length = 20) (size : Int) (bb hb : Nat) (w : World) :
    (Instr.build 39 #[(0, .agg ids.toArray), (1, .string ⟨#[98, 108, 111, 98]⟩), (2, .int .i64 size), (3, .int .i64 size), (6, .pointer (some ⟨bb, 0, none⟩)), (7, .iface 25 (.pointer (some ⟨hb, 0, none⟩)))]).run Ybaf.prog w = .ok (.agg (lrd ids size size bb hb)) w := by
  obtain ⟨x0, x1, x2, x3, x4, x5, x6, x7, x8, x9, x10, x11, x12, x13, x14, x15, x16, x17, x18, x19, rfl⟩ := twenty ids h
  exact build39_at x0 x1 x2 x3 x4 x5 x6 x7 x8 x9 x10 x11 x12 x13 x14 x15 x16 x17 x18 x19 _ _ _ _ _ w

/-- 'id := ID(digest)'. -/
theorem wpList_store_id {ops : Array Oper} {rest : List Oper} {o : Oper} {a : Act} {w : World} {Q : Exit → Act → World → Prop} (hgd : o.guard = none) (x y : Operand) (ho : o.op = .store 24 x y)
    (ib : Nat) (cs zs : List Value) (hx : a.eval x = .pointer (some ⟨ib, 0, none⟩)) (hy : a.eval y = .agg cs.toArray) (hB : Bk w ib zs.toArray 24) (hz : zs.length = 20) (hc : cs.length = 20) (h1 : ∀ v ∈ cs, v.oneCell' = true)
    (h : ∀ w', Hid (Bk w' ib cs.toArray 24) → Hid (Fr [ib] w w') → wpList Ybaf.prog ops Q rest (a.put o.dst undef) w') : wpList Ybaf.prog ops Q (o :: rest) a w := by
  refine wpList_store_mid hgd 24 x y ho ib 0 cs.toArray hx hy ?_ ?_ (all_oneCell_toArray h1) (h _ ?_ ?_)
  · intro j hj
    refine ⟨?_, hB.frozen _⟩
    rw [hB.cell]
    have : j < 20 := by simpa [hc] using hj
    simp; omega
  · rw [List.size_toArray, hc]; exact info24
  · have hb := Bk.setCells cs 0 w ib zs hB (by omega)
    rw [splice_whole zs cs (by omega)] at hb
    exact hb
  · exact Fr.setCells (by simp) cs 0 w w (Fr.refl _ _)

theorem wp_build27 {op : Oper} {a : Act} {w : World} {K : Act → World → Prop} {Q : Exit → Act → World → Prop} (x : Operand) (ho : op.op = .build 27 #[(1, x)]) (cs : List Value) (hx : a.eval x = .agg cs.toArray) (hc : cs.length = 20)
    (h : K (a.put op.dst (.agg (hs (.slice none 0 0) cs))) w) : op.wp Ybaf.prog a w K Q := by
  unfold Oper.wp execOp
  have e : (#[(1, x)] : Array (Nat × Operand)).map (fun (i, x) => (i, a.eval x)) = #[(1, .agg cs.toArray)] := by simp [hx]
  simp only [ho, e, Sem.run_bind, build27 cs hc w, Result.andThen_ok]
  exact h
theorem wpList_build27 {ops : Array Oper} {rest : List Oper} {op : Oper} {a : Act} {w : World} {Q : Exit → Act → World → Prop} (hgd : op.guard = none) (x : Operand) (ho : op.op = .build 27 #[(1, x)]) (cs : List Value) (hx : a.eval x = .agg cs.toArray) (hc : cs.length = 20)
    (h : wpList Ybaf.prog ops Q rest (a.put op.dst (.agg (hs (.slice none 0 0) cs))) w) : wpList Ybaf.prog ops Q (op :: rest) a w :=
  wpList_plain hgd fun _ hK => wp_build27 x ho cs hx hc (hK _ _ h)

end Go.Proofs.YbulkdcecFmt
