/-
  FnAppendIntsReadsBack: WHAT STANDS IN MEMORY AHEAD OF THE READING.
-/
import Derived.Test.Qxb6001227aDoorCanon
import Derived.Test.Qxb6001227aDoorBackPlain
import Derived.Test.Qxb6001227aDoorReads
import Derived.Lib.SlBytesRow
namespace Go.Proofs.Qxb6001227aDoor
open Go.RowKit

set_option maxHeartbeats 400000 in
theorem zb21_any (nt : Int) (a ax : Option Addr) (n cap m capx : Nat) (w : World) (hL : n ≤ maxLen) (hM : m ≤ maxLen) :
    Calls Tryd.prog 21 #[.int .i64 nt, .slice a n cap, .slice ax m capx] w fun e w' => SomeBool e ∧ w' = w := by
  unfold maxLen at hL hM
  go_enter Tryd.func21, Tryd.ntmps21
  go_wp2_with fail
  all_goals (go_ret; exact ⟨⟨_, rfl⟩, rfl⟩)

theorem info2 : (Tryd.prog.info? 2).map (fun i => (i.zero, i.size, i.bytes)) = some (some (.int .i64 0), 1, 8) := by kernel_rfl

/-- The numbers' cells. -/
def numCells (zs : List Int) : List Value := zs.map (Value.int .i64)
theorem numCells_length (zs : List Int) : (numCells zs).length = zs.length := by simp [numCells]
theorem nums_one (zs : List Int) : ∀ v ∈ numCells zs, v.oneCell' = true := by
  intro v hv
  simp only [numCells, List.mem_map] at hv
  obtain ⟨b, _, rfl⟩ := hv
  rfl
theorem Il.src {w : World} {a : Option Addr} {zs : List Int} (h : Il w a zs) : ∀ (j : Nat) v, (numCells zs)[j]? = some v → ∃ b off, a = some ⟨b, off, none⟩ ∧ w.cell? ⟨b, off + j, none⟩ = some v := by
  intro j v hv
  simp only [numCells, List.getElem?_map, Option.map_eq_some_iff] at hv
  obtain ⟨c, hc, rfl⟩ := hv
  exact h j c hc
theorem Il.below {w wr : World} {a : Option Addr} {zs : List Int} {B : Nat} (h : Il w a zs) (hb : Below B w wr) (hB : w.heap.size ≤ B) : Il wr a zs := by
  intro i c hc
  obtain ⟨b, off, ha, hcell⟩ := h i c hc
  exact ⟨b, off, ha, (hb.cell (p := ⟨b, off + i, none⟩) (Nat.lt_of_lt_of_le (World.block_lt_of_cell? w _ hcell) hB)).trans hcell⟩
theorem Il.of_row {w : World} {B : Nat} {a : Option Addr} {n cap : Nat} {zs : List Int} (h : w.ownsRow B 2 1 (.slice a n cap) n (numCells zs)) : Il w a zs := by
  intro i c hc
  have hi : i < zs.length := (List.getElem?_eq_some_iff.1 hc).1
  have hl := h.1
  rw [numCells_length] at hl
  rcases h.2 with ⟨e, hn0⟩ | ⟨g, c', cur, e, hb, hg, h1', h2, h3, h4⟩
  · omega
  · injection e with e1 e2 e3
    subst e1
    refine ⟨g, 0, rfl, ?_⟩
    have : (numCells zs)[i]? = some (.int .i64 c) := by simp [numCells, hc]
    rw [← h4, List.getElem?_take, if_pos (by omega)] at this
    rw [cell_of_row w g _ cur 2 (0, 0) hg, Nat.zero_add]
    simpa using this
theorem Il.gr {w w' : World} {a a' ax : Option Addr} {zs : List Int} (h : Il w ax zs) (hg : Gr w w' a a') (hne : ∀ x, ax = some x → some x.block ≠ blk a) : Il w' ax zs := by
  intro i c hc
  obtain ⟨b, off, ha, hcell⟩ := h i c hc
  refine ⟨b, off, ha, ?_⟩
  rw [World.cell?_of_block (hg.g.block b (World.block_lt_of_cell? w _ hcell) (hne _ ha))]
  exact hcell
theorem row_below {w w' : World} {B e size : Nat} {x : Option Addr} {m c : Nat} {xs : List Value} (hr : w.ownsRow B e size (.slice x m c) m xs) (h : Below w.heap.size w w') : w'.ownsRow B e size (.slice x m c) m xs :=
  (Gr.of_below none h).row hr (by cases x; exact .inl rfl; exact .inr (by simp [blk]))

/-- The copy of xs. -/
structure Xs (w W : World) (zs : List Int) (ax : Option Addr) : Prop where
  below : Below w.heap.size w W
  xs : Il W ax zs
  lt : ∀ x, ax = some x → x.block < W.heap.size

/-- Ahead of ZZAppendInts. -/
structure Pre (w w3 : World) (nt : Int) (bs : List UInt8) (zs : List Int) (ax a1 a2 a3 : Option Addr) (cap1 : Nat) : Prop where
  below : Below w.heap.size w w3
  xs : Il w3 ax zs
  xne : ∀ x, ax = some x → some x.block ≠ blk a1
  own1 : w3.ownsRow w.heap.size 5 1 (.slice a1 bs.length cap1) bs.length (Lib.byteCells bs)
  pre : ∃ cap2, w3.ownsRow w.heap.size 5 1 (.slice a2 bs.length cap2) bs.length (Lib.byteCells bs)
  pne : blk a2 = none ∨ blk a2 ≠ blk a1
  sep : ∃ cap, w3.ownsRow w.heap.size 5 1 (.slice a3 (sepOf nt).length cap) (sepOf nt).length (Lib.byteCells (sepOf nt))
  sne : blk a3 = none ∨ blk a3 ≠ blk a1

theorem pre_of {w W w1 w2 w3 : World} {nt : Int} {bs : List UInt8} {zs : List Int} {ax a1 a2 a3 : Option Addr} {cap1 cap2 cap3 : Nat} (hX : Xs w W zs ax)
    (own1 : w1.ownsRow w.heap.size 5 1 (.slice a1 bs.length cap1) bs.length (Lib.byteCells bs)) (hb1 : Below W.heap.size W w1) (hg1 : ∀ g, blk a1 = some g → W.heap.size ≤ g)
    (own2 : w2.ownsRow w.heap.size 5 1 (.slice a2 bs.length cap2) bs.length (Lib.byteCells bs)) (hb2 : Below w1.heap.size w1 w2) (hg2 : ∀ g, blk a2 = some g → w1.heap.size ≤ g)
    (own3 : w3.ownsRow w.heap.size 5 1 (.slice a3 (0 + (sepOf nt).length) cap3) (0 + (sepOf nt).length) ([] ++ Lib.byteCells (sepOf nt))) (gr3 : Gr w2 w3 none a3) : Pre w w3 nt bs zs ax a1 a2 a3 cap1 := by
  have hb3 : Below w2.heap.size w2 w3 := gr3.below (Nat.le_refl _) (fun g hg => by simp [blk] at hg)
  have hs1 := hb1.size
  have hs2 := hb2.size
  have hlt1 : ∀ g, blk a1 = some g → g < w1.heap.size := fun g hg => (own1.lt g (by rw [ownBlock_slice]; exact hg)).2
  have hW := hX.below.size
  rw [Nat.zero_add, List.nil_append] at own3
  refine ⟨((hX.below.trans (hb1.mono hW)).trans (hb2.mono (by omega))).trans (hb3.mono (by omega)), ((hX.xs.below hb1 (Nat.le_refl _)).below hb2 (Nat.le_refl _)).below hb3 (Nat.le_refl _), fun x hx e => ?_, row_below (row_below own1 hb2) hb3, ⟨cap2, row_below own2 hb3⟩, ?_, ⟨cap3, own3⟩, ?_⟩
  · have := hX.lt x hx
    have := hg1 _ e.symm
    omega
  · cases h : blk a2 with
    | none => exact .inl rfl
    | some g =>
      refine .inr (fun e => ?_)
      have := hg2 g h
      have := hlt1 g e.symm
      omega
  · rcases gr3.loc with h | ⟨g, h, hg⟩
    · exact .inl h
    · refine .inr (fun e => ?_)
      rw [h] at e
      have := hlt1 g e.symm
      omega

/-- The text is written. -/
structure Out (w W : World) (nt : Int) (bs : List UInt8) (zs : List Int) (ax a2 a3 a4 : Option Addr) (n4 cap4 : Nat) : Prop where
  below : Below w.heap.size w W
  xs : Il W ax zs
  pre : Bl W a2 bs
  sep : Bl W a3 (sepOf nt)
  own : W.ownsRow w.heap.size 5 1 (.slice a4 n4 cap4) n4 (Lib.byteCells (bs ++ joinI nt zs))
  len : n4 = bs.length + (joinI nt zs).length

theorem Pre.out {w w3 w4 : World} {nt : Int} {bs : List UInt8} {zs : List Int} {ax a1 a2 a3 a4 : Option Addr} {cap1 cap4 : Nat} (h : Pre w w3 nt bs zs ax a1 a2 a3 cap1)
    (own4 : w4.ownsRow w.heap.size 5 1 (.slice a4 (bs.length + (joinI nt zs).length) cap4) (bs.length + (joinI nt zs).length) (Lib.byteCells bs ++ Lib.byteCells (joinI nt zs))) (gr4 : Gr w3 w4 a1 a4) :
    Out w w4 nt bs zs ax a2 a3 a4 (bs.length + (joinI nt zs).length) cap4 := by
  obtain ⟨c2, h2⟩ := h.pre
  obtain ⟨c3, h3⟩ := h.sep
  have hb4 : Below w.heap.size w3 w4 := gr4.below h.below.size (fun g hg => (h.own1.lt g (by rw [ownBlock_slice]; exact hg)).1)
  exact ⟨h.below.trans hb4, h.xs.gr gr4 h.xne, Bl.of_row (gr4.row h2 h.pne), Bl.of_row (gr4.row h3 h.sne), by rw [show Lib.byteCells (bs ++ joinI nt zs) = Lib.byteCells bs ++ Lib.byteCells (joinI nt zs) by simp [Lib.byteCells]]; exact own4, rfl⟩

theorem Bl.front {w : World} {a : Option Addr} {xs ys : List UInt8} (h : Bl w a (xs ++ ys)) : Bl w a xs := by
  intro i c hc
  exact h i c (by rw [List.getElem?_append_left (List.getElem?_eq_some_iff.1 hc).1]; exact hc)
theorem Bl.back {w : World} {g : Nat} {xs ys : List UInt8} (h : Bl w (some ⟨g, 0, none⟩) (xs ++ ys)) : ∀ (i : Nat) c, ys[i]? = some c → w.cell? ⟨g, xs.length + i, none⟩ = some (.int .u8 (c.toNat : Int)) := by
  intro i c hc
  obtain ⟨b, off, ha, hcell⟩ := h (xs.length + i) c (by rw [List.getElem?_append_right (by omega)]; simpa using hc)
  injection ha with ha
  injection ha with e1 e2
  subst e1 e2
  rwa [Nat.zero_add] at hcell

/-- Where the text lies, once it is not empty. -/
theorem Out.geo {w W : World} {nt : Int} {bs : List UInt8} {zs : List Int} {ax a2 a3 a4 : Option Addr} {n4 cap4 : Nat} (h : Out w W nt bs zs ax a2 a3 a4 n4 cap4) (h1 : 1 ≤ n4) :
    ∃ g, a4 = some ⟨g, 0, none⟩ ∧ n4 ≤ cap4 ∧ cap4 ≤ maxLen ∧ Bl W (some ⟨g, 0, none⟩) bs ∧ (∀ (i : Nat) c, (joinI nt zs)[i]? = some c → W.cell? ⟨g, bs.length + i, none⟩ = some (.int .u8 (c.toNat : Int))) := by
  have hB := Bl.of_row h.own
  obtain ⟨g, rfl, _, h3, h4, _⟩ := row_cells h.own (by rw [h.len]; simp) h1
  exact ⟨g, rfl, h3, h4, hB.front, hB.back⟩

theorem zsm_at (n b off cap : Nat) (bs : List UInt8) (v : Int) (w : World) (hn : n = bs.length) (hv : smallI bs = some v) (hc : ∀ i d, bs[i]? = some d → w.cell? ⟨b, off + i, none⟩ = some (.int .u8 (d.toNat : Int)))
    (h1 : 1 ≤ bs.length) (hL : bs.length ≤ maxLen) (hcap : bs.length ≤ cap) :
    Calls Tryd.prog 19 #[.slice (some ⟨b, off, none⟩) n cap] w fun e w' => e = .returned (.tuple #[.int .i64 v, .bool true]) ∧ w' = w := by
  subst hn
  refine (zsm_any b off cap bs w hc h1 hL hcap).mono ?_
  rintro e w' ⟨he, hw⟩
  rw [hv] at he
  exact ⟨he, hw⟩

end Go.Proofs.Qxb6001227aDoor
