/-
  What the law's loop keeps, and each of its steps.
-/
import Derived.Test.YbulkdcecFmtPre
namespace Go.Proofs.YbulkdcecFmt
open Go.RowKit Go.Extern.Stop Go.Stop Go.Extern
set_option linter.unusedVariables false
set_option linter.unusedSimpArgs false

/-- What does not change: the blocks' order, the input, io.EOF. -/
structure Cst (w : World) (hb lb base len cap size : Nat) (a : Option Addr) (z : Nat → Int) (xs ys : List Int) (eo : Addr) : Prop where
  w0 : 0 < w.heap.size
  h1 : w.heap.size + 2 ≤ hb
  h2 : hb + 4 ≤ lb
  h3 : lb < base
  hlen : len ≤ 1024
  hlc : len ≤ cap
  hs1 : size ≤ len + 1
  hs2 : size ≤ 255
  data : len = 0 ∨ ∃ b o, a = some ⟨b, o, none⟩ ∧ ∀ j, j < len → w.cell? ⟨b, o + j, none⟩ = some (.int .u8 (z j))
  hx : InU8 xs
  lx : xs.length = 20
  hy : InU8 ys
  ly : ys.length = 20
  hg : w.cell? ⟨0, 0, none⟩ = some (.iface 65 (.pointer (some eo)))

/-- What the loop keeps, but for the readers' own places. -/
structure St (w : World) (hb lb base size : Nat) (z : Nat → Int) (xs ys : List Int) (pos gp : Nat) (lv got : Value) (wr : World) : Prop where
  lr : Bk wr lb (lrd (u8s ys) size ((size - pos : Nat) : Int) (hb + 2) hb) 39
  hh : Bk wr hb (hs lv (u8s xs)) 27
  ol : Own wr base lv pos z
  og : Own wr base got gp z
  dj : ∀ g, got.ownBlock = some g → lv.ownBlock ≠ some g
  fr : Fr [] w wr
  bs : base ≤ wr.heap.size

theorem St.alloc {w : World} {hb lb base size : Nat} {z : Nat → Int} {xs ys : List Int} {pos gp : Nat} {lv got : Value} {wr : World} (s : St w hb lb base size z xs ys pos gp lv got wr) (o : Obj) :
    St w hb lb base size z xs ys pos gp lv got (wr.alloc o) :=
  ⟨s.lr.alloc o, s.hh.alloc o, s.ol.keep ((Fr.refl [] wr).alloc o) (by simp), s.og.keep ((Fr.refl [] wr).alloc o) (by simp), s.dj, s.fr.alloc o, by have := s.bs; simp; omega⟩

/-- Behind the append onto 'got'. -/
theorem St.app {w : World} {hb lb base size : Nat} {z : Nat → Int} {xs ys : List Int} {pos gp gp' : Nat} {lv got got' : Value} {wr w' : World} (s : St w hb lb base size z xs ys pos gp lv got wr)
    (hlb : lb < base) (hhb : hb < base) (hw : w.heap.size ≤ base) (ho : Own w' base got' gp' z) (hf : Fr got.ownBlock.toList wr w') (h5 : got'.ownBlock = got.ownBlock ∨ got'.ownBlock = some wr.heap.size) :
    St w hb lb base size z xs ys pos gp' lv got' w' := by
  have hB : ∀ k, k < base → k ∉ got.ownBlock.toList := fun k hk hm => by
    have := (s.og.lt k (by simpa using hm)).1
    omega
  refine ⟨hf.bk s.lr (hB _ hlb), hf.bk s.hh (hB _ hhb), s.ol.keep hf (fun g hq hm => s.dj g (by simpa using hm) hq), ho, ?_, s.fr.also hf (fun x hm => .inr ?_), Nat.le_trans s.bs hf.size⟩
  · intro g hq hl
    rcases h5 with h | h
    · exact s.dj g (h ▸ hq) hl
    · have := (s.ol.lt g hl).2
      rw [h] at hq
      cases hq
      omega
  · have := (s.og.lt x (by simpa using hm)).1
    omega

theorem ownNot {w : World} {base : Nat} {v : Value} {n : Nat} {z : Nat → Int} (h : Own w base v n z) {L : List Nat} (hL : ∀ k ∈ L, k < base) {u : Value} (hd : ∀ g, v.ownBlock = some g → u.ownBlock ≠ some g) {pb : Nat} (hp : ∀ g, v.ownBlock = some g → g ≠ pb) :
    ∀ g, v.ownBlock = some g → g ∉ L ∧ g ∉ u.ownBlock.toList ∧ g ≠ pb := by
  intro g hq
  have := (h.lt g hq).1
  exact ⟨fun hm => by have := hL g hm; omega, fun hm => hd g hq (by simpa using hm), hp g hq⟩

/-- Behind Read. -/
theorem St.read {w : World} {hb lb base size : Nat} {z : Nat → Int} {xs ys : List Int} {pos pos' gp pb : Nat} {lv lv' got : Value} {wr w' : World} (s : St w hb lb base size z xs ys pos gp lv got wr)
    (hlb : lb < base) (hhb : hb + 4 ≤ base) (hw : w.heap.size ≤ hb) (hwl : w.heap.size ≤ lb) (hpb : base ≤ pb) (hp : ∀ g, got.ownBlock = some g → g ≠ pb)
    (hlr : Bk w' lb (lrd (u8s ys) size ((size - pos' : Nat) : Int) (hb + 2) hb) 39) (hh : Bk w' hb (hs lv' (u8s xs)) 27) (ho : Own w' base lv' pos' z)
    (hf : Fr ((hb + 1) :: (hb + 2) :: (hb + 2 + 1) :: pb :: hb :: lb :: lv.ownBlock.toList) wr w') (h5 : lv'.ownBlock = lv.ownBlock ∨ ∃ g, lv'.ownBlock = some g ∧ wr.heap.size ≤ g) :
    St w hb lb base size z xs ys pos' gp lv' got w' := by
  refine ⟨hlr, hh, ho, s.og.keep hf ?_, ?_, s.fr.also hf ?_, Nat.le_trans s.bs hf.size⟩
  · intro g hq hm
    have h0 := (s.og.lt g hq).1
    have h1 := hp g hq
    simp only [List.mem_cons, Option.mem_toList] at hm
    rcases hm with h | h | h | h | h | h | h
    · omega
    · omega
    · omega
    · exact h1 h
    · omega
    · omega
    · exact s.dj g hq h
  · intro g hq hl
    rcases h5 with h | ⟨g', h, hk⟩
    · exact s.dj g hq (h ▸ hl)
    · have := (s.og.lt g hq).2
      rw [h] at hl
      cases hl
      omega
  · intro x hm
    right
    simp only [List.mem_cons, Option.mem_toList] at hm
    rcases hm with h | h | h | h | h | h | h
    · omega
    · omega
    · omega
    · omega
    · omega
    · omega
    · have := (s.ol.lt x h).1
      omega

theorem step_ok {w : World} {hb lb base len cap size : Nat} {a : Option Addr} {z : Nat → Int} {xs ys : List Int} {eo : Addr} (c : Cst w hb lb base len cap size a z xs ys eo)
    {pos gp pb k : Nat} {lv got : Value} {ps : List Value} (wr : World) (s : St w hb lb base size z xs ys pos gp lv got wr) (hrd : RD wr (hb + 1) (hb + 2) (hb + 2 + 1) a len cap z pos)
    (hpos : pos < len) (hps : pos < size) (hp : Bk wr pb ps.toArray 5) (hk : ps.length = k) (hk1 : 1 ≤ k) (hk2 : k ≤ 40) (hpb : base ≤ pb)
    (o5 : ∀ g, lv.ownBlock = some g → g ≠ pb) (o6 : ∀ g, got.ownBlock = some g → g ≠ pb) :
    Calls Ybaf.prog 6 #[.pointer (some ⟨lb, 0, none⟩), .slice (some ⟨pb, 0, none⟩) k k] wr fun e w' => ∃ n lv', 1 ≤ n ∧ n ≤ k ∧ pos + n ≤ len ∧ pos + n ≤ size ∧ e = .returned (.tuple #[.int .i64 n, .nilIface]) ∧
      (∀ j, j < n → w'.cell? ⟨pb, j, none⟩ = some (.int .u8 (z (pos + j)))) ∧ St w hb lb base size z xs ys (pos + n) gp lv' got w' ∧ RD w' (hb + 1) (hb + 2) (hb + 2 + 1) a len cap z (pos + n) := by
  obtain ⟨w0, h1, h2, h3, hlen, hlc, hs1, hs2, data, hx, lx, hy, ly, hg⟩ := c
  rcases data with h0 | ⟨b, o, rfl, hz⟩
  · omega
  have hb0 : b < w.heap.size := World.block_lt_of_cell? _ _ (hz 0 (by omega))
  have lys : (u8s ys).length = 20 := by rw [u8s_length]; exact ly
  have hbs := s.bs
  refine (read_ok (hb + 1) (hb + 2) (hb + 2 + 1) hb lb pb b o len cap pos k (size - pos) base 5 z ps (u8s ys) (u8s xs) size lv wr hrd hpos hlc hlen (fun j hj => s.fr.cell (hz j hj) (by simp)) hp hk hk1 hk2 s.lr lys (by omega) (by omega) s.hh s.ol s.bs (by omega)
    (by omega) (by omega) (by omega) (by omega) (by omega) (by omega) (by omega) (by omega) (by omega) (by omega) (by omega) (by omega) (by omega) (by omega) (by omega) (by omega) (by omega) (by omega) (by omega) (by omega) (by omega) (by omega) (by omega) o5 eo (by omega) (by omega) (by omega) (by omega) (by omega) (by omega) (by omega) (s.fr.cell hg (by simp))).mono ?_
  rintro e w' ⟨n, lv', q1, q2, q3, q4, rfl, q5, q6, q7, q8, q9, q10, q11⟩
  refine ⟨n, lv', q1, q2, q4, by omega, rfl, q6, s.read h3 (by omega) (by omega) (by omega) hpb o6 ?_ q8 q9 q10 q11, q5⟩
  rw [show size - (pos + n) = size - pos - n from by omega]
  exact q7

theorem step_stop {w : World} {hb lb base len cap size : Nat} {a : Option Addr} {z : Nat → Int} {xs ys : List Int} {eo : Addr} (c : Cst w hb lb base len cap size a z xs ys eo)
    {pos gp pb k : Nat} {lv got : Value} (wr : World) (s : St w hb lb base size z xs ys pos gp lv got wr) (hrd : RD wr (hb + 1) (hb + 2) (hb + 2 + 1) a len cap z pos)
    (hpl : pos ≤ len) (hps : pos ≤ size) (hst : pos = len ∨ pos = size) (hk1 : 1 ≤ k) (hk2 : k ≤ 40) (hpb : base ≤ pb) (hpw : pb < wr.heap.size)
    (o6 : ∀ g, got.ownBlock = some g → g ≠ pb) :
    Calls Ybaf.prog 6 #[.pointer (some ⟨lb, 0, none⟩), .slice (some ⟨pb, 0, none⟩) k k] wr fun e w' => ∃ p lv', e = .returned (.tuple #[.int .i64 0, .iface 65 (.pointer (some p))]) ∧
      ErrIs wr w' eo (size = len ∧ xs = ys) p ∧ St w hb lb base size z xs ys pos gp lv' got w' := by
  obtain ⟨w0, h1, h2, h3, hlen, hlc, hs1, hs2, data, hx, lx, hy, ly, hg⟩ := c
  have HD := hide data
  clear data
  have hbs := s.bs
  refine (read_stop (hb + 1) (hb + 2) (hb + 2 + 1) hb lb pb len cap pos k size base a z xs ys lv wr hrd hlen hlc hk1 hk2 hpl hps hst hs2 ?_ s.lr hx lx hy ly s.hh s.ol s.bs (by omega) hpw
    (by omega) (by omega) (by omega) (by omega) (by omega) (by omega) (by omega) (by omega) (by omega) (by omega) (by omega) (by omega) (by omega) (by omega) eo (by omega) (by omega) (by omega) (by omega) (by omega) (by omega) (s.fr.cell hg (by simp))).mono ?_
  · intro hlt
    rcases unhide HD with h0 | ⟨b, o, rfl, hz⟩
    · omega
    · have hb0 : b < w.heap.size := World.block_lt_of_cell? _ _ (hz 0 (by omega))
      exact ⟨b, o, rfl, fun j hj => s.fr.cell (hz j hj) (by simp), by omega, by omega, by omega⟩
  · rintro e w' ⟨p, lv', rfl, q1, q2, q3, q4, q5, q6⟩
    exact ⟨p, lv', rfl, q1, s.read h3 (by omega) (by omega) (by omega) hpb o6 q2 q3 q4 q5 q6⟩

end Go.Proofs.YbulkdcecFmt
