/-
  THE WALK OF FnSmallIntReadsAppendIntsOrRefuses (5).
-/
import Derived.Test.Qxb6001227aDoorInts
import Derived.Test.Qxb6001227aDoorSmallDoor
import Derived.Test.Qxb6001227aDoorPlain
namespace Go.Proofs.Qxb6001227aDoor
open Go.RowKit

/-- The bytes of an owned row that is not empty: where they lie. -/
theorem row_cells {w : World} {B : Nat} {a : Option Addr} {n cap : Nat} {bs : List UInt8} (h : w.ownsRow B 5 1 (.slice a n cap) n (Lib.byteCells bs)) (hn : n = bs.length) (h1 : 1 ≤ n) :
    ∃ g, a = some ⟨g, 0, none⟩ ∧ B ≤ g ∧ n ≤ cap ∧ cap ≤ maxLen ∧ ∀ i d, bs[i]? = some d → w.cell? ⟨g, 0 + i, none⟩ = some (.int .u8 (d.toNat : Int)) := by
  rcases h.2 with ⟨e, hn0⟩ | ⟨g, c, cur, e, hb, hg, h1', h2, h3, h4⟩
  · omega
  · injection e with e1 e2 e3
    subst e1 e3
    refine ⟨g, rfl, hb, h1', h2, fun i d hd => ?_⟩
    have hi : i < bs.length := (List.getElem?_eq_some_iff.1 hd).1
    have : (Lib.byteCells bs)[i]? = some (.int .u8 (d.toNat : Int)) := by simp [Lib.byteCells, hd]
    rw [← h4, List.getElem?_take, if_pos (by omega)] at this
    rw [cell_of_row w g _ cur 5 (0, 0) hg, Nat.zero_add]
    simpa using this

set_option maxHeartbeats 400000 in
theorem reads_any (x : Int) (w : World) (h0 : -9223372036854775808 ≤ x) (h1 : x ≤ 9223372036854775807) (htab : Lib.TabIs Tryd.prog w powName .u64 Lib.pow10Tab) :
    Calls Tryd.prog 5 #[.int .i64 x] w fun e w' => e = .returned (.bool true) ∧ Below w.heap.size w w' := by
  have HT : Hid (Lib.TabBelow Tryd.prog w.heap.size w powName .u64 Lib.pow10Tab) := Lib.tabBelow_of_tabIs htab
  have hb0 : Below w.heap.size w (w.alloc (.cells #[.int .i64 x] 2)) := (Below.refl _ _).alloc (Nat.le_refl _) _
  have hI : Il (w.alloc (.cells #[.int .i64 x] 2)) (some ⟨w.heap.size, 0, none⟩) [x] := by
    intro i y hy
    match i, hy with
    | 0, hy =>
      simp at hy
      subst hy
      exact ⟨_, _, rfl, by simp⟩
  have HI : Hid (Il (w.alloc (.cells #[.int .i64 x] 2)) (some ⟨w.heap.size, 0, none⟩) [x]) := hI
  have hl := Lib.itoa_length_le x h0 h1
  have hl1 := itoa_ne x
  clear htab hI
  go_enter Tryd.func5, Tryd.ntmps5
  go_wp2_with fail
  refine (zap_any w.heap.size 0 0 0 none (some ⟨w.heap.size, 0, none⟩) 1 [] [x] _ (World.ownsRow_nil _ _ _ _) (by simp) HI.out (by simp [blk]) (by simp; omega) (by simp) (HT.out.on hb0)).mono ?_
  rintro e w2 ⟨a2, cap2, rfl, hown2, hgr2⟩
  rw [joinI_one, Nat.zero_add, List.nil_append] at hown2
  rw [joinI_one, Nat.zero_add]
  have hbel : Below w.heap.size w w2 := hb0.trans (hgr2.below (by simp) (fun g hg => by simp [blk] at hg))
  obtain ⟨g, ha, _, hc1, hc2, hcells⟩ := row_cells hown2 rfl hl1
  have HC : Hid (∀ i d, (Lib.itoa x)[i]? = some d → w2.cell? ⟨g, 0 + i, none⟩ = some (.int .u8 (d.toNat : Int))) := hcells
  rw [ha]
  clear hgr2 hown2 hcells hb0 ha
  have hml : (Lib.itoa x).length ≤ maxLen := by unfold maxLen; omega
  by_cases hx : -1000000000000000000 < x ∧ x < 1000000000000000000
  · obtain ⟨hx1, hx2⟩ := hx
    have HS : Hid (smallI (Lib.itoa x) = some x) := smallI_itoa hx1 hx2
    generalize Lib.itoa x = T at *
    go_wp2_with fail
    refine (zsm_any g 0 cap2 T w2 HC.out hl1 hml hc1).mono ?_
    rintro e w' ⟨he, hw⟩; subst w'
    rw [HS.out] at he
    subst he
    unfold smallV
    go_wp2_with fail
    go_ret
    exact ⟨by simp, hbel⟩
  · have HS : Hid (smallI (Lib.itoa x) = none) := smallI_itoa_no (by omega)
    have hx' : x ≤ -1000000000000000000 ∨ 1000000000000000000 ≤ x := by omega
    clear hx
    generalize Lib.itoa x = T at *
    rcases hx' with hx | hx
    all_goals
      go_wp2_with fail
      refine (zsm_any g 0 cap2 T w2 HC.out hl1 hml hc1).mono ?_
      rintro e w' ⟨he, hw⟩; subst w'
      rw [HS.out] at he
      subst he
      unfold smallV
      go_wp2_with fail
      go_ret
      exact ⟨by simp, hbel⟩

end Go.Proofs.Qxb6001227aDoor
