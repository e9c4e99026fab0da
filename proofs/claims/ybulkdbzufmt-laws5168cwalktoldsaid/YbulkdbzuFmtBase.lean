/-
  The base of the two proofs over seat b5168aF: a block that is known whole ('Bk'), the frame of a call that writes into two blocks alone ('Fr'), the closed facts on the program's types, fmt's door.
-/
import Derived.Test.YbulkdbzuFmtProg
import Derived.WalkKit
import Derived.WalkSpells
import Derived.LaidEql
import Derived.WideLaws
import Derived.Stop.CallBack
import Derived.Stop.IfaceNil
import Derived.Deep.Draws
namespace Go.Proofs.YbulkdbzuFmt
open Go.RowKit Go.Extern.Stop Go.Stop Go.Extern

theorem hide {p : Prop} (h : p) : Hid p := h
theorem unhide {p : Prop} (h : Hid p) : p := h

/-- Block b is known whole: its cells, its type; nothing in it is frozen. -/
def Bk (w : World) (b : Nat) (cs : Array Value) (t : TypeId) : Prop := w.heap[b]? = some (.cells cs t (0, 0))

theorem Bk.cell {w : World} {b : Nat} {cs : Array Value} {t : TypeId} (h : Bk w b cs t) (i : Nat) : w.cell? ⟨b, i, none⟩ = cs[i]? := by
  unfold Bk at h; simp [World.cell?, h]
theorem Bk.frozen {w : World} {b : Nat} {cs : Array Value} {t : TypeId} (h : Bk w b cs t) (i : Nat) : w.frozen? ⟨b, i, none⟩ = false := by
  unfold Bk at h; simp [World.frozen?, h]
theorem Bk.lt {w : World} {b : Nat} {cs : Array Value} {t : TypeId} (h : Bk w b cs t) : b < w.heap.size := by
  unfold Bk at h
  rcases Nat.lt_or_ge b w.heap.size with g | g
  · exact g
  · rw [Array.getElem?_eq_none g] at h; cases h
theorem Bk.set {w : World} {b : Nat} {cs : Array Value} {t : TypeId} (h : Bk w b cs t) (i : Nat) (v : Value) : Bk (w.setCell ⟨b, i, none⟩ v) b (cs.setIfInBounds i v) t := by
  unfold Bk at h ⊢; simp [World.setCell, Array.getElem?_modify, h]
theorem Bk.setOther {w : World} {b b' : Nat} {cs : Array Value} {t : TypeId} (h : Bk w b cs t) (i : Nat) (v : Value) (hne : b' ≠ b) : Bk (w.setCell ⟨b', i, none⟩ v) b cs t := by
  unfold Bk at h ⊢; simp [World.setCell, Array.getElem?_modify, hne, h]
theorem Bk.drew {w : World} {b : Nat} {cs : Array Value} {t : TypeId} (h : Bk w b cs t) : Bk w.drew b cs t := h
theorem Bk.drewN {w : World} {b : Nat} {cs : Array Value} {t : TypeId} (h : Bk w b cs t) (n : Nat) : Bk (w.drewN n) b cs t := h
theorem Bk.alloc {w : World} {b : Nat} {cs : Array Value} {t : TypeId} (h : Bk w b cs t) (o : Obj) : Bk (w.alloc o) b cs t := by
  have hl := h.lt
  unfold Bk at h ⊢
  rw [Below.heap_alloc _ _ _ hl]; exact h
theorem Bk.fresh (w : World) (cs : Array Value) (t : TypeId) : Bk (w.alloc (.cells cs t)) w.heap.size cs t := by
  unfold Bk; show (w.heap.push _)[w.heap.size]? = _; simp

/-- The frame of a call that writes into the blocks s and d alone, and may make new ones. -/
structure Fr (s d : Nat) (w w' : World) : Prop where
  os : w'.os = w.os
  tape : w'.tape = w.tape
  output : w'.output = w.output
  size : w.heap.size ≤ w'.heap.size
  block : ∀ k, k < w.heap.size → k ≠ s → k ≠ d → w'.heap[k]? = w.heap[k]?

theorem Fr.refl (s d : Nat) (w : World) : Fr s d w w := ⟨rfl, rfl, rfl, Nat.le_refl _, fun _ _ _ _ => rfl⟩
theorem Fr.trans {s d : Nat} {a b c : World} (h : Fr s d a b) (k : Fr s d b c) : Fr s d a c :=
  ⟨k.os.trans h.os, k.tape.trans h.tape, k.output.trans h.output, Nat.le_trans h.size k.size, fun i hi h1 h2 => (k.block i (Nat.lt_of_lt_of_le hi h.size) h1 h2).trans (h.block i hi h1 h2)⟩
theorem Fr.drew {s d : Nat} {a w : World} (h : Fr s d a w) : Fr s d a w.drew := ⟨h.os, h.tape, h.output, h.size, h.block⟩
theorem Fr.drewN {s d : Nat} {a w : World} (h : Fr s d a w) (n : Nat) : Fr s d a (w.drewN n) := ⟨h.os, h.tape, h.output, h.size, h.block⟩
theorem Fr.alloc {s d : Nat} {a w : World} (h : Fr s d a w) (o : Obj) : Fr s d a (w.alloc o) :=
  h.trans ⟨rfl, rfl, rfl, by simp, fun k hk _ _ => Below.heap_alloc _ _ _ hk⟩
theorem Fr.setS {s d : Nat} {a w : World} (h : Fr s d a w) (i : Nat) (v : Value) : Fr s d a (w.setCell ⟨s, i, none⟩ v) :=
  h.trans ⟨rfl, rfl, rfl, by simp [World.setCell], fun k _ h1 _ => Below.heap_setCell _ _ _ _ h1⟩
theorem Fr.setD {s d : Nat} {a w : World} (h : Fr s d a w) (i : Nat) (v : Value) : Fr s d a (w.setCell ⟨d, i, none⟩ v) :=
  h.trans ⟨rfl, rfl, rfl, by simp [World.setCell], fun k _ _ h2 => Below.heap_setCell _ _ _ _ h2⟩
theorem Fr.bk {s d : Nat} {w w' : World} (h : Fr s d w w') {b : Nat} {cs : Array Value} {t : TypeId} (hb : Bk w b cs t) (h1 : b ≠ s) (h2 : b ≠ d) : Bk w' b cs t := by
  have hl := hb.lt
  unfold Bk at hb ⊢; rw [h.block b hl h1 h2]; exact hb
theorem Fr.wide {s d : Nat} {w w' : World} (h : Fr s s w w') : Fr s d w w' := ⟨h.os, h.tape, h.output, h.size, fun k hk h1 _ => h.block k hk h1 h1⟩
theorem Fr.of_heap {s d : Nat} {w w' w'' : World} (h : Fr s d w w') (h1 : w''.heap = w'.heap) (h2 : w''.os = w'.os) (h3 : w''.tape = w'.tape) (h4 : w''.output = w'.output) : Fr s d w w'' :=
  ⟨h2.trans h.os, h3.trans h.tape, h4.trans h.output, by rw [h1]; exact h.size, fun k a b c => by rw [h1]; exact h.block k a b c⟩
theorem Fr.cell {s d : Nat} {w w' : World} (h : Fr s d w w') {p : Addr} {v : Value} (hc : w.cell? p = some v) (h1 : p.block ≠ s) (h2 : p.block ≠ d) : w'.cell? p = some v := by
  have hl : p.block < w.heap.size := World.block_lt_of_cell? _ _ hc
  rw [World.cell?_of_block (w := w) (h.block p.block hl h1 h2)]; exact hc
theorem Fr.below {s d B : Nat} {w w' : World} (h : Fr s d w w') (hB : B ≤ w.heap.size) (h1 : B ≤ s) (h2 : B ≤ d) : Below B w w' :=
  ⟨h.os, h.tape, h.output, h.size, fun k hk => h.block k (by omega) (by omega) (by omega)⟩

theorem cell_alloc {w : World} {p : Addr} {v : Value} (h : w.cell? p = some v) (o : Obj) : (w.alloc o).cell? p = some v := by
  rw [World.cell?_of_block (w := w) (Below.heap_alloc _ _ _ (World.block_lt_of_cell? _ _ h))]; exact h
theorem four_blocks (w : World) (c1 c2 c3 c4 : Array Value) (t1 t2 t3 t4 : TypeId) :
    Bk ((((w.alloc (.cells c1 t1)).alloc (.cells c2 t2)).alloc (.cells c3 t3)).alloc (.cells c4 t4)) w.heap.size c1 t1 ∧
    Bk ((((w.alloc (.cells c1 t1)).alloc (.cells c2 t2)).alloc (.cells c3 t3)).alloc (.cells c4 t4)) (w.heap.size + 1) c2 t2 ∧
    Bk ((((w.alloc (.cells c1 t1)).alloc (.cells c2 t2)).alloc (.cells c3 t3)).alloc (.cells c4 t4)) (w.heap.size + 2) c3 t3 ∧
    Bk ((((w.alloc (.cells c1 t1)).alloc (.cells c2 t2)).alloc (.cells c3 t3)).alloc (.cells c4 t4)) (w.heap.size + 3) c4 t4 := by
  refine ⟨(((Bk.fresh w c1 t1).alloc _).alloc _).alloc _, ?_, ?_, ?_⟩
  · have h := ((Bk.fresh (w.alloc (.cells c1 t1)) c2 t2).alloc (.cells c3 t3)).alloc (.cells c4 t4)
    simp only [World.size_alloc] at h; exact h
  · have h := (Bk.fresh ((w.alloc (.cells c1 t1)).alloc (.cells c2 t2)) c3 t3).alloc (.cells c4 t4)
    simp only [World.size_alloc] at h; exact h
  · have h := Bk.fresh (((w.alloc (.cells c1 t1)).alloc (.cells c2 t2)).alloc (.cells c3 t3)) c4 t4
    simp only [World.size_alloc] at h; exact h
theorem three_blocks (w : World) (c1 c2 c3 : Array Value) (t1 t2 t3 : TypeId) :
    Bk (((w.alloc (.cells c1 t1)).alloc (.cells c2 t2)).alloc (.cells c3 t3)) w.heap.size c1 t1 ∧
    Bk (((w.alloc (.cells c1 t1)).alloc (.cells c2 t2)).alloc (.cells c3 t3)) (w.heap.size + 1) c2 t2 ∧
    Bk (((w.alloc (.cells c1 t1)).alloc (.cells c2 t2)).alloc (.cells c3 t3)) (w.heap.size + 2) c3 t3 := by
  refine ⟨((Bk.fresh w c1 t1).alloc _).alloc _, ?_, ?_⟩
  · have h := (Bk.fresh (w.alloc (.cells c1 t1)) c2 t2).alloc (.cells c3 t3)
    simp only [World.size_alloc] at h; exact h
  · have h := Bk.fresh ((w.alloc (.cells c1 t1)).alloc (.cells c2 t2)) c3 t3
    simp only [World.size_alloc] at h; exact h

end Go.Proofs.YbulkdbzuFmt
