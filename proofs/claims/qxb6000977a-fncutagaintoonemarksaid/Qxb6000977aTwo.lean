/-
  A STORE WITH ITS MARK; A NEW STORE BESIDE IT.
-/
import Derived.Test.Qxb6000977aMark
namespace Go.Proofs.Qxb6000977a
open Go.RowKit Go.WideMaps Go.Maps

/-- A store with its mark in block mk. -/
structure Mkd (B : Nat) (w : World) (sb mb mk : Nat) (am : Option Addr) (capm : Nat) (ns0 ns : List ByteArray) (N : Nat) (wr : World) (a : Option Addr) (cap : Nat) : Prop where
  st : St B sb mb a cap ns N wr
  mrow : wr.ownsRow B 9 1 (.slice am ns0.length capm) ns0.length (ns0.map Value.string)
  box : wr.heap[mk]? = some (.cells #[.slice none 0 0, .slice none 0 0, .slice none 0 0, .slice am ns0.length capm] 44 (0, 0))
  hmk : B ≤ mk
  below : Below B w wr

section
variable {B : Nat} {w : World} {sb mb mk : Nat} {am : Option Addr} {capm : Nat} {ns0 ns : List ByteArray} {N : Nat} {wr : World} {a : Option Addr} {cap : Nat}

theorem Mkd.ne (h : Mkd B w sb mb mk am capm ns0 ns N wr a cap) : mk ≠ sb ∧ mk ≠ mb ∧ some mk ≠ blk a := by
  refine ⟨?_, ?_, ?_⟩
  · rintro rfl
    have := h.box
    rw [h.st.cells] at this
    simp at this
  · rintro rfl
    obtain ⟨D, ⟨es, cl, hb, _⟩, _⟩ := h.st.map
    rw [h.box] at hb
    cases hb
  · intro e
    obtain ⟨cur', hc⟩ := row_blk h.st.row (by rw [ownBlock_slice]; exact e.symm)
    rw [h.box] at hc
    cases hc

theorem Mkd.name (h : Mkd B w sb mb mk am capm ns0 ns N wr a cap) (hl : ns0.length ≤ ns.length) {ns' : List ByteArray} {N' : Nat} {w' : World} {a' : Option Addr} {cap' : Nat} (hst : St B sb mb a' cap' ns' N' w') (hfr : Fr B sb mb a ns.length wr w' a') :
    Mkd B w sb mb mk am capm ns0 ns' N' w' a' cap' := by
  obtain ⟨n1, n2, n3⟩ := h.ne
  exact ⟨hst, hfr.rows _ _ _ h.mrow hl, (hfr.block mk (Array.getElem?_eq_some_iff.1 h.box).1 n1 n2 n3).trans h.box, h.hmk, h.below.trans (hfr.below h.st)⟩

theorem Fc.below {w' : World} (f : Fc sb mb a wr w') (h : St B sb mb a cap ns N wr) : Below B wr w' := by
  refine ⟨f.os, f.tape, f.output, f.size, fun k hk => ?_⟩
  have h1 := h.hsb
  have h2 := h.hmb
  have h3 := h.hB
  refine f.block k (by omega) (by omega) (by omega) (fun e => ?_)
  have := (h.row.lt k (by rw [ownBlock_slice]; exact e.symm)).1
  omega

theorem Mkd.cut (h : Mkd B w sb mb mk am capm ns0 ns N wr a cap) {w' : World} (hst : St B sb mb am capm ns0 N w') (hfc : Fc sb mb a wr w') : Mkd B w sb mb mk am capm ns0 ns0 N w' am capm := by
  obtain ⟨n1, n2, n3⟩ := h.ne
  exact ⟨hst, hst.row, (hfc.block mk (Array.getElem?_eq_some_iff.1 h.box).1 n1 n2 n3).trans h.box, h.hmk, h.below.trans (hfc.below h.st)⟩

theorem Mkd.cells (h : Mkd B w sb mb mk am capm ns0 ns N wr a cap) : wr.cell? ⟨mk, 0, none⟩ = some (.slice none 0 0) ∧ wr.cell? ⟨mk, 1, none⟩ = some (.slice none 0 0) ∧ wr.cell? ⟨mk, 2, none⟩ = some (.slice none 0 0) ∧ wr.cell? ⟨mk, 3, none⟩ = some (.slice am ns0.length capm) := by
  refine ⟨?_, ?_, ?_, ?_⟩
  · rw [cell_of_row wr mk 0 _ 44 (0, 0) h.box]; rfl
  · rw [cell_of_row wr mk 1 _ 44 (0, 0) h.box]; rfl
  · rw [cell_of_row wr mk 2 _ 44 (0, 0) h.box]; rfl
  · rw [cell_of_row wr mk 3 _ 44 (0, 0) h.box]; rfl

/-- The mark is taken: the struct that ZZMarkOfNames hands back, laid in a block of its own. -/
theorem Mkd.start {w1 : World} (h : St B sb mb a cap ns N wr) (hb : Below B w wr) (h1 : Below wr.heap.size wr w1) :
    Mkd B w sb mb w1.heap.size a cap ns ns N (w1.alloc (.cells #[.slice none 0 0, .slice none 0 0, .slice none 0 0, .slice a ns.length cap] 44)) a cap := by
  have hst := h.below (h1.alloc h1.size (.cells #[.slice none 0 0, .slice none 0 0, .slice none 0 0, .slice a ns.length cap] 44))
  have hB := h.hB
  have hs := h1.size
  exact ⟨hst, hst.row, Go.heap_alloc_new w1 _, by omega, (hb.trans (h1.mono hB)).alloc (by omega) _⟩
end

theorem Two.drewN {B sb mb fb fmb : Nat} {a : Option Addr} {cap : Nat} {af : Option Addr} {capf : Nat} {ns nf : List ByteArray} {N Nf : Nat} {wr : World} (h : Two B sb mb fb fmb a cap af capf ns nf N Nf wr) (q : Nat) : Two B sb mb fb fmb a cap af capf ns nf N Nf (wr.drewN q) :=
  ⟨⟨h.s.cells, h.s.row, h.s.map, h.s.hsb, h.s.hmb, h.s.hB⟩, ⟨h.f.cells, h.f.row, h.f.map, h.f.hsb, h.f.hmb, h.f.hB⟩, h.ne, h.nm, h.apart⟩

/-- A new store beside the old one. -/
theorem Two.start {B sb mb : Nat} {a : Option Addr} {cap : Nat} {ns : List ByteArray} {N : Nat} {w w1 : World} (h : St B sb mb a cap ns N w) (h1 : St B (w.heap.size + 1) w.heap.size none 0 [] 0 w1) (hb : Below w.heap.size w w1) :
    Two B sb mb (w.heap.size + 1) w.heap.size a cap none 0 ns [] N 0 w1 :=
  ⟨h.below hb, h1, by have := h.lt; omega, by have := h.mlt; omega, fun g _ h2 => by simp [blk] at h2⟩

end Go.Proofs.Qxb6000977a
