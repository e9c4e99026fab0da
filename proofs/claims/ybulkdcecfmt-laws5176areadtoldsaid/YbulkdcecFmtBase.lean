/-
  The base of the proof over seat b5176aF: a block that is known whole ('Bk'), the frame of a call that writes into a few blocks alone ('Fr'), rows of bytes.
-/
import Derived.Test.YbulkdcecFmtProg
import Derived.WalkKit
import Derived.WalkSpells
import Derived.WalkSmall
import Derived.LaidEql
import Derived.WideLaws
import Derived.Stop.CallBack
import Derived.Stop.IfaceNil
import Derived.Deep.Draws
import Derived.Laws.CopyOwn
namespace Go.Proofs.YbulkdcecFmt
open Go.RowKit Go.Extern.Stop Go.Stop Go.Extern

theorem hide {p : Prop} (h : p) : Hid p := h
theorem unhide {p : Prop} (h : Hid p) : p := h

/-- Block b is known whole: its cells, its type; nothing in it is frozen. -/
def Bk (w : World) (b : Nat) (cs : Array Value) (t : TypeId) : Prop := w.heap[b]? = some (.cells cs t (0, 0))

theorem Bk.cell {w : World} {b : Nat} {cs : Array Value} {t : TypeId} (h : Bk w b cs t) (i : Nat) : w.cell? ⟨b, i, none⟩ = cs[i]? := by
  unfold Bk at h; simp [World.cell?, h]
theorem Bk.frozen {w : World} {b : Nat} {cs : Array Value} {t : TypeId} (h : Bk w b cs t) (i : Nat) : w.frozen? ⟨b, i, none⟩ = false := by
  unfold Bk at h; simp [World.frozen?, h]
theorem Bk.lt {w : World} {b : Nat} {cs : Array Value} {t : TypeId} (h : Bk w b cs t) : b < w.heap.size := by
  unfold Bk at h
  rcases Nat.lt_or_ge b w.heap.size with g | g
  · exact g
  · rw [Array.getElem?_eq_none g] at h; cases h
theorem Bk.set {w : World} {b : Nat} {cs : Array Value} {t : TypeId} (h : Bk w b cs t) (i : Nat) (v : Value) : Bk (w.setCell ⟨b, i, none⟩ v) b (cs.setIfInBounds i v) t := by
  unfold Bk at h ⊢; simp [World.setCell, Array.getElem?_modify, h]
theorem Bk.setOther {w : World} {b b' : Nat} {cs : Array Value} {t : TypeId} (h : Bk w b cs t) (i : Nat) (v : Value) (hne : b' ≠ b) : Bk (w.setCell ⟨b', i, none⟩ v) b cs t := by
  unfold Bk at h ⊢; simp [World.setCell, Array.getElem?_modify, hne, h]
theorem Bk.of_heap {w w' : World} {b : Nat} {cs : Array Value} {t : TypeId} (h : Bk w b cs t) (hh : w'.heap = w.heap) : Bk w' b cs t := by
  unfold Bk at h ⊢; rw [hh]; exact h
theorem Bk.alloc {w : World} {b : Nat} {cs : Array Value} {t : TypeId} (h : Bk w b cs t) (o : Obj) : Bk (w.alloc o) b cs t := by
  have hl := h.lt
  unfold Bk at h ⊢
  rw [Below.heap_alloc _ _ _ hl]; exact h
theorem Bk.fresh (w : World) (cs : Array Value) (t : TypeId) : Bk (w.alloc (.cells cs t)) w.heap.size cs t := by
  unfold Bk; show (w.heap.push _)[w.heap.size]? = _; simp
theorem Bk.below {B : Nat} {w w' : World} {b : Nat} {cs : Array Value} {t : TypeId} (h : Bk w b cs t) (hb : Below B w w') (hB : b < B) : Bk w' b cs t := by
  unfold Bk at h ⊢; rw [hb.block b hB]; exact h

/-- The frame of a call that writes into the blocks of the list S alone, and may make new ones. -/
structure Fr (S : List Nat) (w w' : World) : Prop where
  os : w'.os = w.os
  tape : w'.tape = w.tape
  output : w'.output = w.output
  size : w.heap.size ≤ w'.heap.size
  block : ∀ k, k < w.heap.size → k ∉ S → w'.heap[k]? = w.heap[k]?

theorem Fr.refl (S : List Nat) (w : World) : Fr S w w := ⟨rfl, rfl, rfl, Nat.le_refl _, fun _ _ _ => rfl⟩
theorem Fr.trans {S : List Nat} {a b c : World} (h : Fr S a b) (k : Fr S b c) : Fr S a c :=
  ⟨k.os.trans h.os, k.tape.trans h.tape, k.output.trans h.output, Nat.le_trans h.size k.size, fun i hi h1 => (k.block i (Nat.lt_of_lt_of_le hi h.size) h1).trans (h.block i hi h1)⟩
theorem Fr.of_heap {S : List Nat} {w w' w'' : World} (h : Fr S w w') (h1 : w''.heap = w'.heap) (h2 : w''.os = w'.os) (h3 : w''.tape = w'.tape) (h4 : w''.output = w'.output) : Fr S w w'' :=
  ⟨h2.trans h.os, h3.trans h.tape, h4.trans h.output, by rw [h1]; exact h.size, fun k a b => by rw [h1]; exact h.block k a b⟩
theorem Fr.alloc {S : List Nat} {a w : World} (h : Fr S a w) (o : Obj) : Fr S a (w.alloc o) :=
  h.trans ⟨rfl, rfl, rfl, by simp, fun k hk _ => Below.heap_alloc _ _ _ hk⟩
theorem Fr.drewN {S : List Nat} {a w : World} (h : Fr S a w) (n : Nat) : Fr S a (w.drewN n) := h.of_heap rfl rfl rfl rfl
theorem Fr.set {S : List Nat} {a w : World} (h : Fr S a w) {b : Nat} (hb : b ∈ S) (i : Nat) (v : Value) : Fr S a (w.setCell ⟨b, i, none⟩ v) :=
  h.trans ⟨rfl, rfl, rfl, by simp [World.setCell], fun k _ h1 => Below.heap_setCell _ _ _ _ (fun e => h1 (by rw [e]; exact hb))⟩
theorem Fr.wide {S T : List Nat} {w w' : World} (h : Fr S w w') (hs : ∀ k, k ∈ S → k ∈ T) : Fr T w w' := ⟨h.os, h.tape, h.output, h.size, fun k hk h1 => h.block k hk (fun e => h1 (hs k e))⟩
/-- What was new to the call need not be named. -/
theorem Fr.drop {S T : List Nat} {w w' : World} (h : Fr S w w') (hs : ∀ k, k ∈ S → k ∈ T ∨ w.heap.size ≤ k) : Fr T w w' :=
  ⟨h.os, h.tape, h.output, h.size, fun k hk h1 => h.block k hk (fun e => by rcases hs k e with g | g; exact h1 g; omega)⟩
theorem Fr.bk {S : List Nat} {w w' : World} (h : Fr S w w') {b : Nat} {cs : Array Value} {t : TypeId} (hb : Bk w b cs t) (h1 : b ∉ S) : Bk w' b cs t := by
  have hl := hb.lt
  unfold Bk at hb ⊢; rw [h.block b hl h1]; exact hb
theorem Fr.cell {S : List Nat} {w w' : World} (h : Fr S w w') {p : Addr} {v : Value} (hc : w.cell? p = some v) (h1 : p.block ∉ S) : w'.cell? p = some v := by
  have hl : p.block < w.heap.size := World.block_lt_of_cell? _ _ hc
  rw [World.cell?_of_block (w := w) (h.block p.block hl h1)]; exact hc
theorem Fr.below {S : List Nat} {B : Nat} {w w' : World} (h : Fr S w w') (hB : B ≤ w.heap.size) (h1 : ∀ k ∈ S, B ≤ k) : Below B w w' :=
  ⟨h.os, h.tape, h.output, h.size, fun k hk => h.block k (by omega) (fun e => by have := h1 k e; omega)⟩
theorem Fr.of_below {S : List Nat} {w w' : World} (h : Below w.heap.size w w') : Fr S w w' := ⟨h.os, h.tape, h.output, h.size, fun k hk _ => h.block k hk⟩
theorem Fr.of_grown {S : List Nat} {w w' : World} {row : Option Nat} (h : w.grownBy w' row) (hr : ∀ k, row = some k → k ∈ S) : Fr S w w' :=
  ⟨h.os, h.tape, h.output, h.size, fun k hk h1 => h.block k hk (fun e => h1 (hr k e.symm))⟩

theorem cell_alloc {w : World} {p : Addr} {v : Value} (h : w.cell? p = some v) (o : Obj) : (w.alloc o).cell? p = some v := by
  rw [World.cell?_of_block (w := w) (Below.heap_alloc _ _ _ (World.block_lt_of_cell? _ _ h))]; exact h

/-- n bytes of z, from i on, as cells. -/
def bts (z : Nat → Int) (i n : Nat) : List Value := (List.range n).map fun j => .int .u8 (z (i + j))
theorem bts_length (z : Nat → Int) (i n : Nat) : (bts z i n).length = n := by simp [bts]
theorem bts_get (z : Nat → Int) (i n j : Nat) (h : j < n) : (bts z i n)[j]? = some (.int .u8 (z (i + j))) := by
  simp [bts, List.getElem?_range h]
theorem bts_one (z : Nat → Int) (i n : Nat) : ∀ v ∈ bts z i n, v.oneCell' = true := by
  intro v hv
  simp only [bts, List.mem_map] at hv
  obtain ⟨j, _, rfl⟩ := hv
  rfl
theorem bts_app (z : Nat → Int) (i n m : Nat) : bts z i n ++ bts z (i + n) m = bts z i (n + m) := by
  simp only [bts, List.range_add, List.map_append, List.map_map]
  congr 1
  apply List.map_congr_left
  intro j _
  simp [Nat.add_assoc]

end Go.Proofs.YbulkdcecFmt
