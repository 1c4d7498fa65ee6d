/-
  strconv.AppendInt AT BASE 10 (29, 30, 31) ONTO BYTES THAT THE CALL OWNS, after the shelf's contracts, with the sharper frame 'Gr': no old block but the slice's own row turns.
-/
import Derived.Test.Qxb6001227aDoorShelf
import Derived.Test.Qxb6001227aDoorAppend
import Derived.Lib.Walk
import Derived.Lib.ItoaWalk
import Derived.Lib.ItoaMem
import Derived.Lib.ItoaLen
import Derived.Lib.AppendIntMem
import Derived.Lib.Slices
import Derived.Lib.Hide
import Derived.BigCall
import Derived.BigGuard
import Derived.CellFam
namespace Go.Proofs.Qxb6001227aDoor
open Go.RowKit Go.Sort Go.Lib

theorem info5 : (Tryd.prog.info? 5).map (fun i => (i.zero, i.size, i.bytes)) = some (some (.int .u8 0), 1, 1) := by kernel_rfl

set_option maxHeartbeats 1000000 in
set_option maxRecDepth 100000 in
theorem au_small (B n cap u : Nat) (hu : u < 100) (a : Option Addr) (xs : List Value) (w : World) (hown : w.ownsRow B 5 1 (.slice a n cap) n xs) (hBw : B ≤ w.heap.size) (hlim : n + 20 ≤ 140737488355328) :
    Calls Tryd.prog 31 #[.slice a n cap, .int .u64 u, .int .i64 10] w fun e w' => ∃ a' cap', e = .returned (.slice a' (n + (Lib.decDigits u).length) cap') ∧ w'.ownsRow B 5 1 (.slice a' (n + (Lib.decDigits u).length) cap') (n + (Lib.decDigits u).length) (xs ++ Lib.byteCells (Lib.decDigits u)) ∧ Gr w w' a a' := by
  obtain ⟨i0, hi, hz0, hz1, hz2⟩ := info_parts info5
  have hlen : (Lib.decDigits u).length ≤ 20 := by
    rw [Lib.decDigits_length]
    by_cases h10 : u < 10
    · rw [Lib.nDigits_small h10]; omega
    · rw [Lib.nDigits_big h10, Lib.nDigits_small (show u / 10 < 10 by omega)]; omega
  have hsz : (⟨(Lib.decDigits u).toArray⟩ : ByteArray).size = (Lib.decDigits u).length := by simp [ByteArray.size]
  have hui : (u : Int) < 100 := by omega
  go_enter Tryd.func31, Tryd.ntmps31
  go_wp2_with fail
  refine (Tryd.internal_strconv_small u hu _).mono ?_
  rintro e w' ⟨rfl, hw⟩; subst w'
  go_wp2_with (first
    | (at_builtin; refine wpList_append_str _ rfl _ _ 22 9 rfl B 5 i0 Tryd.underlying22 Tryd.underlying9 hi hz0 hz1 hz2 _ _ _ _ rfl hown ⟨(Lib.decDigits u).toArray⟩ rfl (by rw [hsz]; unfold maxLen; omega) (by rw [hsz]; omega) hBw ?_
       rw [hsz]
       intro a' cap' w1 hown' hgr))
  go_ret
  exact ⟨a', cap', rfl, hown', hgr⟩

set_option maxHeartbeats 2000000 in
set_option maxRecDepth 100000 in
theorem au_big (B n cap u : Nat) (hu : 100 ≤ u) (hu64 : u < 18446744073709551616) (a : Option Addr) (xs : List Value) (w : World) (hown : w.ownsRow B 5 1 (.slice a n cap) n xs) (hBw : B ≤ w.heap.size) (hlim : n + 20 ≤ 140737488355328)
    (htab : Lib.TabIs Tryd.prog w powName .u64 Lib.pow10Tab) :
    Calls Tryd.prog 31 #[.slice a n cap, .int .u64 u, .int .i64 10] w fun e w' => ∃ a' cap', e = .returned (.slice a' (n + (Lib.decDigits u).length) cap') ∧ w'.ownsRow B 5 1 (.slice a' (n + (Lib.decDigits u).length) cap') (n + (Lib.decDigits u).length) (xs ++ Lib.byteCells (Lib.decDigits u)) ∧ Gr w w' a a' := by
  obtain ⟨i0, hi, hz0, hz1, hz2⟩ := info_parts info5
  have hu1 : 1 ≤ u := by omega
  have hnd20 : Lib.nDigits u ≤ 20 := by have := Lib.numDigits_eq u hu1 hu64; split at this <;> omega
  have hal : Tryd.prog.arrayLen 50 = 24 := by kernel_rfl
  have hsl : ∀ W, (Instr.sliceAt 50 (.pointer (some ⟨w.heap.size, 0, none⟩)) none (some (.int .i64 (Lib.nDigits u : Int))) none).run Tryd.prog W = .ok (.slice (some ⟨w.heap.size, 0, none⟩) (Lib.nDigits u) 24) W := fun W => by
    rw [run_sliceAt_array_h W 50 ⟨w.heap.size, 0, none⟩ (by kernel_rfl) .i64 (Lib.nDigits u : Int) (by omega) (by rw [hal]; omega)]
    go_simp
  have hH0 := Lib.holds_zero0 w 50 (Lib.nDigits u) (by omega)
  have HH0 := Lib.hid hH0
  have iu : (100 : Int) ≤ (u : Int) := by omega
  have HT : Hid (Lib.TabIs Tryd.prog w powName .u64 Lib.pow10Tab) := htab
  have HO : Hid (w.ownsRow B 5 1 (.slice a n cap) n xs) := hown
  clear hH0 hal htab hown
  go_enter Tryd.func31, Tryd.ntmps31
  go_wp2_with fail
  refine (Tryd.internal_strconv_numDigits u hu1 hu64 _ (Lib.tabIs_alloc HT.out _)).mono ?_
  rintro e w' ⟨rfl, hw⟩; subst w'
  go_wp2_with fail
  have hfmt := Tryd.internal_strconv_formatBase10 w.heap.size 0 24 u (Array.replicate (Lib.nDigits u) 0) (w.alloc (.cells Lib.zeros24 50)) HH0.out (by rw [Array.size_replicate]; exact Lib.lt_pow_nDigits u) hu64 (by rw [Array.size_replicate]; omega)
  rw [Array.size_replicate] at hfmt
  refine hfmt.mono ?_
  rintro e w' ⟨rfl, k, v', dk, rfl, hF⟩
  have hcells : ∀ j u', (Lib.byteCells (Lib.decDigits u))[j]? = some u' → ((putRow (fun (b : UInt8) => Value.int .u8 (b.toNat : Int)) (w.alloc (.cells Lib.zeros24 50)) w.heap.size 0 dk).drewN k).cell? ((⟨w.heap.size, 0, none⟩ : Addr).add j) = some u' := by
    intro j u' hj
    have hjl : j < (Lib.decDigits u).length := by
      have h5 := (List.getElem?_eq_some_iff.1 hj).1
      rwa [Lib.byteCells_length] at h5
    have e5 : (Lib.byteCells (Lib.decDigits u))[j]? = some (Value.int .u8 ((Lib.decDigits u)[j].toNat : Int)) := by simp [Lib.byteCells, hjl]
    rw [e5] at hj
    cases hj
    rw [Lib.row_is_numeral hF j hjl, Lib.add_plain, World.cell?_drewN]
    exact cell?_putRow (fun (b : UInt8) => Value.int .u8 (b.toNat : Int)) _ w.heap.size 0 _ dk HH0.out (by rw [hF.size, Array.size_replicate]) j (by rw [hF.size]; rw [Lib.decDigits_length] at hjl; exact hjl)
  obtain ⟨os, eo⟩ := Lib.fin_at w (.cells Lib.zeros24 50) dk k 0
  have hown2 : ((putRow (fun (b : UInt8) => Value.int .u8 (b.toNat : Int)) (w.alloc (.cells Lib.zeros24 50)) w.heap.size 0 dk).drewN k).ownsRow B 5 1 (.slice a n cap) n xs := by rw [eo]; exact Lib.ownsRow_grow HO.out k os
  have hgr2 : Gr w ((putRow (fun (b : UInt8) => Value.int .u8 (b.toNat : Int)) (w.alloc (.cells Lib.zeros24 50)) w.heap.size 0 dk).drewN k) a a := by rw [eo]; exact Gr.of_below a (Lib.below_grow w.heap.size w (Nat.le_refl _) k os)
  generalize (putRow (fun (b : UInt8) => Value.int .u8 (b.toNat : Int)) (w.alloc (.cells Lib.zeros24 50)) w.heap.size 0 dk).drewN k = W2 at hcells hown2 hgr2 ⊢
  have hBW := hgr2.g.size
  clear eo HH0 hfmt hF
  go_wp2_with (first
    | (at_builtin; refine wpList_append_bs _ rfl _ _ 22 rfl B 5 i0 Tryd.underlying22 hi hz0 hz1 hz2 _ _ _ _ rfl hown2 ⟨w.heap.size, 0, none⟩ (Lib.nDigits u) 24 (Lib.byteCells (Lib.decDigits u)) rfl (by rw [Lib.byteCells_length, Lib.decDigits_length]) hcells (by intro u' hu'; simp only [Lib.byteCells, List.mem_map] at hu'; obtain ⟨b, _, rfl⟩ := hu'; rfl) (by unfold maxLen; omega) (by omega) (by omega) ?_
       intro a' cap' w3 hown' hgr3))
  go_ret
  rw [Lib.decDigits_length]
  exact ⟨a', cap', rfl, hown', hgr2.trans hgr3⟩

theorem au_any (B n cap u : Nat) (hu64 : u < 18446744073709551616) (a : Option Addr) (xs : List Value) (w : World) (hown : w.ownsRow B 5 1 (.slice a n cap) n xs) (hBw : B ≤ w.heap.size) (hlim : n + 20 ≤ 140737488355328)
    (htab : Lib.TabIs Tryd.prog w powName .u64 Lib.pow10Tab) :
    Calls Tryd.prog 31 #[.slice a n cap, .int .u64 u, .int .i64 10] w fun e w' => ∃ a' cap', e = .returned (.slice a' (n + (Lib.decDigits u).length) cap') ∧ w'.ownsRow B 5 1 (.slice a' (n + (Lib.decDigits u).length) cap') (n + (Lib.decDigits u).length) (xs ++ Lib.byteCells (Lib.decDigits u)) ∧ Gr w w' a a' := by
  by_cases h : u < 100
  · exact au_small B n cap u h a xs w hown hBw hlim
  · exact au_big B n cap u (by omega) hu64 a xs w hown hBw hlim htab

set_option maxHeartbeats 2000000 in
set_option maxRecDepth 100000 in
theorem ai30_any (B n cap : Nat) (i : Int) (h0 : -9223372036854775808 ≤ i) (h1 : i ≤ 9223372036854775807) (a : Option Addr) (xs : List Value) (w : World) (hown : w.ownsRow B 5 1 (.slice a n cap) n xs) (hBw : B ≤ w.heap.size) (hlim : n + 21 ≤ 140737488355328)
    (htab : Lib.TabBelow Tryd.prog B w powName .u64 Lib.pow10Tab) :
    Calls Tryd.prog 30 #[.slice a n cap, .int .i64 i, .int .i64 10] w fun e w' => ∃ a' cap', e = .returned (.slice a' (n + (Lib.itoa i).length) cap') ∧ w'.ownsRow B 5 1 (.slice a' (n + (Lib.itoa i).length) cap') (n + (Lib.itoa i).length) (xs ++ Lib.byteCells (Lib.itoa i)) ∧ Gr w w' a a' := by
  obtain ⟨i0, hi, hz0, hz1, hz2⟩ := info_parts info5
  have hblk : ∀ g, blk a = some g → B ≤ g := fun g hg => (hown.lt g (by rw [ownBlock_slice]; exact hg)).1
  have HB : Hid (∀ g, blk a = some g → B ≤ g) := hblk
  have HT : Hid (Lib.TabBelow Tryd.prog B w powName .u64 Lib.pow10Tab) := htab
  clear hblk htab
  by_cases hneg : i < 0
  · obtain ⟨u, rfl⟩ : ∃ u : Nat, i = -(u : Int) := ⟨i.natAbs, by omega⟩
    have hu1 : 1 ≤ u := by omega
    have hu64 : u < 18446744073709551616 := by omega
    have hwr : IntKind.u64.wrap (-IntKind.u64.wrap (-(u : Int))) = (u : Int) := by rw [IntKind.wrap_u64, IntKind.wrap_u64]; omega
    rw [Lib.itoa_neg u hu1]
    go_enter Tryd.func30, Tryd.ntmps30
    go_wp2_with (first
      | (at_builtin; refine wpList_append_bs _ rfl _ _ 22 rfl B 5 i0 Tryd.underlying22 hi hz0 hz1 hz2 _ _ _ _ rfl (hown.alloc _) ⟨w.heap.size, 0, none⟩ 1 1 [Value.int .u8 45] rfl rfl (cell_one_new _ _ _) (one_byte 45) (by unfold maxLen; omega) (by omega) (by simp; omega) ?_
         intro a1 cap1 w1 hown1 hgr1))
    have hgr := (Gr.alloc w a (.cells #[.int .u8 45] 5)).trans hgr1
    have hb1 : Below B w w1 := hgr.below hBw HB.out
    refine (au_any B (n + 1) cap1 u hu64 a1 _ w1 hown1 (by have := hb1.size; omega) (by omega) (HT.out w1 hb1)).mono ?_
    rintro e w2 ⟨a2, cap2, rfl, hown2, hgr2⟩
    go_wp2_with fail
    go_ret
    have e1 : n + ((Lib.decDigits u).length + 1) = n + 1 + (Lib.decDigits u).length := by omega
    have e2 : xs ++ Lib.byteCells (45 :: Lib.decDigits u) = xs ++ [Value.int .u8 45] ++ Lib.byteCells (Lib.decDigits u) := by simp [Lib.byteCells]
    refine ⟨a2, cap2, ?_, ?_, hgr.trans hgr2⟩
    · show Ending.returned (Value.slice a2 (n + 1 + (Lib.decDigits u).length) cap2) = _
      rw [e1]
    · rw [e1, e2]
      exact hown2
  · obtain ⟨u, rfl⟩ : ∃ u : Nat, i = u := ⟨i.toNat, by omega⟩
    have hu64 : u < 18446744073709551616 := by omega
    rw [Lib.itoa_nonneg]
    go_enter Tryd.func30, Tryd.ntmps30
    go_wp2_with fail
    refine (au_any B n cap u hu64 a xs w hown hBw (by omega) HT.out.here).mono ?_
    rintro e w2 ⟨a2, cap2, rfl, hown2, hgr2⟩
    go_wp2_with fail
    go_ret
    exact ⟨a2, cap2, rfl, hown2, hgr2⟩

set_option maxHeartbeats 400000 in
/-- strconv.AppendInt at base 10. -/
theorem ai_any (B n cap : Nat) (i : Int) (h0 : -9223372036854775808 ≤ i) (h1 : i ≤ 9223372036854775807) (a : Option Addr) (xs : List Value) (w : World) (hown : w.ownsRow B 5 1 (.slice a n cap) n xs) (hBw : B ≤ w.heap.size) (hlim : n + 21 ≤ 140737488355328)
    (htab : Lib.TabBelow Tryd.prog B w powName .u64 Lib.pow10Tab) :
    Calls Tryd.prog 29 #[.slice a n cap, .int .i64 i, .int .i64 10] w fun e w' => ∃ a' cap', e = .returned (.slice a' (n + (Lib.itoa i).length) cap') ∧ w'.ownsRow B 5 1 (.slice a' (n + (Lib.itoa i).length) cap') (n + (Lib.itoa i).length) (xs ++ Lib.byteCells (Lib.itoa i)) ∧ Gr w w' a a' := by
  have HT : Hid (Lib.TabBelow Tryd.prog B w powName .u64 Lib.pow10Tab) := htab
  clear htab
  go_enter Tryd.func29, Tryd.ntmps29
  go_wp2_with fail
  refine (ai30_any B n cap i h0 h1 a xs w hown hBw hlim HT.out).mono ?_
  rintro e w2 ⟨a2, cap2, rfl, hown2, hgr2⟩
  go_wp2_with fail
  go_ret
  exact ⟨a2, cap2, rfl, hown2, hgr2⟩

end Go.Proofs.Qxb6001227aDoor
