/-
  THE WALK OF FnSmallIntAcceptsOnlyCanonical (6).
-/
import Derived.Test.Qxb6001227aDoorBytes
import Derived.Test.Qxb6001227aDoorCanonPlain
import Derived.Test.Qxb6001227aDoorSmallDoor
namespace Go.Proofs.Qxb6001227aDoor
open Go.RowKit

/-- Some bool comes back. -/
def SomeBool (e : Ending) : Prop := ∃ b, e = .returned (.bool b)

set_option maxHeartbeats 400000 in
theorem zb20_any (a : Option Addr) (n cap : Nat) (w : World) (hL : n ≤ maxLen) :
    Calls Tryd.prog 20 #[.slice a n cap] w fun e w' => SomeBool e ∧ w' = w := by
  unfold maxLen at hL
  go_enter Tryd.func20, Tryd.ntmps20
  go_wp2_with fail
  all_goals (go_ret; exact ⟨⟨_, rfl⟩, rfl⟩)

/-- A token that is the call's own, in block g. -/
structure Tok (B : Nat) (w0 : World) (g : Nat) (bs : List UInt8) (w : World) : Prop where
  own : w.ownsRow B 5 1 (.slice (some ⟨g, 0, none⟩) bs.length bs.length) bs.length (Lib.byteCells bs)
  below : Below B w0 w

theorem Tok.cells {B : Nat} {w0 : World} {g : Nat} {bs : List UInt8} {w : World} (h : Tok B w0 g bs w) : ∀ i d, bs[i]? = some d → w.cell? ⟨g, 0 + i, none⟩ = some (.int .u8 (d.toNat : Int)) := by
  intro i d hd
  obtain ⟨b, off, ha, hc⟩ := Bl.of_row h.own i d hd
  injection ha with ha
  injection ha with e1 e2
  subst e1 e2
  exact hc

theorem Tok.tail {B : Nat} {w0 : World} {g : Nat} {d : UInt8} {bs : List UInt8} {w : World} (h : Tok B w0 g (d :: bs) w) : Bl w (some ⟨g, 1, none⟩) bs := by
  intro i c hc
  have := h.cells (i + 1) c (by simpa using hc)
  exact ⟨g, 1, rfl, by rwa [show 0 + (i + 1) = 1 + i by omega] at this⟩

theorem eq_at (n : Nat) (a a' : Option Addr) (cap cap' : Nat) (bs : List UInt8) (w : World) (hn : n = bs.length) (hS : Bl w a bs) (hS' : Bl w a' bs) (hL : bs.length ≤ maxLen) :
    Calls Tryd.prog 15 #[.slice a n cap, .slice a' n cap'] w fun e w' => e = .returned (.bool true) ∧ ∃ n, w' = w.drewN n := by
  subst hn
  exact eq_any a a' cap cap' bs w hS hS' hL

theorem Il.one (w : World) (v : Int) : Il (w.alloc (.cells #[.int .i64 v] 2)) (some ⟨w.heap.size, 0, none⟩) [v] := by
  intro i y hy
  match i, hy with
  | 0, hy =>
    simp at hy
    subst hy
    exact ⟨_, _, rfl, by simp⟩

/-- ZZAppendInts of one number onto nil, behind whatever stands. -/
theorem text_one (v : Int) (w0 W : World) (h0 : -9223372036854775808 ≤ v) (h1 : v ≤ 9223372036854775807) (hb : Below w0.heap.size w0 W) (htab : Lib.TabIs Tryd.prog w0 powName .u64 Lib.pow10Tab) :
    Calls Tryd.prog 18 #[.int .i64 0, .slice none 0 0, .slice (some ⟨W.heap.size, 0, none⟩) 1 1] (W.alloc (.cells #[.int .i64 v] 2)) fun e w' =>
      ∃ a' cap', e = .returned (.slice a' (Lib.itoa v).length cap') ∧ Bl w' a' (Lib.itoa v) ∧ Below W.heap.size W w' := by
  have hT := (Lib.tabBelow_of_tabIs htab).on (hb.alloc hb.size (.cells #[.int .i64 v] 2))
  have hsz := hb.size
  refine (zap_any w0.heap.size 0 0 0 none (some ⟨W.heap.size, 0, none⟩) 1 [] [v] _ (World.ownsRow_nil _ _ _ _) (by simp; omega) (Il.one W v) (by simp [blk]) (by simp; omega) (by simp) hT).mono ?_
  rintro e w2 ⟨a2, cap2, rfl, hown2, hgr2⟩
  rw [joinI_one, Nat.zero_add, List.nil_append] at hown2
  refine ⟨a2, cap2, by rw [joinI_one, Nat.zero_add], Bl.of_row hown2, ?_⟩
  have hb2 : Below (W.alloc (.cells #[.int .i64 v] 2)).heap.size (W.alloc (.cells #[.int .i64 v] 2)) w2 := hgr2.below (Nat.le_refl _) (fun g hg => by simp [blk] at hg)
  exact ((Below.refl _ _).alloc (Nat.le_refl _) _).trans (hb2.mono (by simp))

set_option maxHeartbeats 1000000 in
theorem canon_any (a0 : Option Addr) (cap0 : Nat) (bs : List UInt8) (w : World) (hZ : Bs w a0 cap0 bs) (htab : Lib.TabIs Tryd.prog w powName .u64 Lib.pow10Tab) :
    Calls Tryd.prog 6 #[.slice a0 bs.length cap0] w fun e w' => e = .returned (.bool true) ∧ Below w.heap.size w w' := by
  obtain ⟨i0, hi, hz0, hz1, hz2⟩ := info_parts info5
  have hml : bs.length ≤ maxLen := Nat.le_trans hZ.len hZ.cap
  have HZ : Hid (Bs w a0 cap0 bs) := hZ
  have HT : Hid (Lib.TabIs Tryd.prog w powName .u64 Lib.pow10Tab) := htab
  have HM : Hid (bs.length ≤ maxLen) := hml
  clear hZ htab hml
  by_cases h0 : bs.length = 0
  · have hb0 : ((bs.length : Int) == 0) = true := by rw [beq_iff_eq]; omega
    have HH : Hid (bs.length = 0) := h0
    clear h0
    go_enter Tryd.func6, Tryd.ntmps6
    go_wp2_with fail
    refine (zb20_any a0 bs.length cap0 _ HM.out).mono ?_
    rintro e w' ⟨⟨b, rfl⟩, hw⟩; subst w'
    cases b
    all_goals
      go_wp2_with fail
      go_ret
      exact ⟨rfl, Below.refl _ _⟩
  · have hb0 : ((bs.length : Int) == 0) = false := by simp; intro e; exact h0 (by simp [e])
    by_cases hbig : bs.length ≤ 1048576
    rotate_left
    · go_enter Tryd.func6, Tryd.ntmps6
      go_wp2_with fail
      refine (zb20_any a0 bs.length cap0 _ HM.out).mono ?_
      rintro e w' ⟨⟨b, rfl⟩, hw⟩; subst w'
      cases b
      all_goals
        go_wp2_with fail
        go_ret
        exact ⟨rfl, Below.refl _ _⟩
    obtain ⟨x, hx⟩ : ∃ x, a0 = some x := by
      cases a0 with
      | none => exact absurd (by rw [HZ.out.nil rfl]; rfl) h0
      | some x => exact ⟨x, rfl⟩
    subst hx
    have hne := run_neq_slice_nil_any (P := Tryd.prog) w 22 5 (some x) bs.length cap0 0 0 Tryd.underlying22
    go_enter Tryd.func6, Tryd.ntmps6
    go_wp2_with fail
    refine (zb20_any (some x) bs.length cap0 _ HM.out).mono ?_
    rintro e w' ⟨⟨b, rfl⟩, hw⟩; subst w'
    cases b
    · go_wp2_with fail
      go_ret
      exact ⟨rfl, Below.refl _ _⟩
    go_wp2_with (first
      | (at_make; refine wpList_make_full _ rfl _ _ 22 rfl w.heap.size 5 i0 (.int .u8 0) 1 Tryd.underlying22 hi hz0 hz1 _ _ _ _ bs.length rfl rfl rfl rfl (by rw [hz2]; omega) (by unfold maxLen; omega) (Nat.le_refl _) ?_
         intro w1 hrow hgr
         have hb1 : Below w.heap.size w w1 := ⟨hgr.os, hgr.tape, hgr.output, hgr.size, fun k hk => hgr.block k hk (by simp)⟩
         obtain ⟨W, hcp, hown, hgW⟩ := copy_made (cap := cap0) Tryd.underlying22 size5 hrow (Lib.byteCells_length bs) ((Bl.below HZ.out.cells hb1 (Nat.le_refl _)).src) (bytes_one bs)
         have hbW : Below w.heap.size w W := hb1.grown hgW hb1.size (fun k hk => by rw [← Option.some.inj hk]; exact Nat.le_refl _)
         have HO : Hid (Tok w.heap.size w w.heap.size bs W) := ⟨hown, hbW⟩
         clear hrow hgr hb1 hown hgW hbW))
    refine (zsm_any w.heap.size 0 bs.length bs W HO.out.cells (by omega) HM.out (Nat.le_refl _)).mono ?_
    rintro e w' ⟨he, hw⟩; subst w'
    cases hs : smallI bs with
    | none =>
      rw [hs] at he
      subst he
      unfold smallV
      go_wp2_with fail
      go_ret
      exact ⟨rfl, HO.out.below⟩
    | some v =>
      rw [hs] at he
      subst he
      unfold smallV
      obtain ⟨⟨hv1, hv2⟩, hcase⟩ := small_cases hs
      clear hs hne hcp
      have hlW := HO.out.below.size
      rcases hcase with ⟨c, r, rfl, hc, hit⟩ | ⟨rfl, hit⟩ | ⟨c, r, rfl, hnz, hit⟩ | ⟨c, r, rfl, hc, hit⟩
      · obtain ⟨hc1, hc2⟩ := dg_bounds hc
        have k0 := HO.out.cells 0 43 rfl
        have k1 := HO.out.cells 1 c rfl
        rw [Nat.add_zero] at k0
        have hi0 : (1 : Int) < (r.length : Int) + 1 + 1 := by omega
        have hcc : ¬ r.length + 1 + 1 = 1 := by omega
        have e45 : ((c.toNat : Int) == 45) = false := by rw [beq_eq_false_iff_ne]; omega
        have HI : Hid (Lib.itoa v = c :: r) := hit
        clear hit hc
        by_cases h2 : ((r.length : Int) + 1 == 2) = true
        all_goals
          go_wp2_with fail
          refine (text_one v w W (by omega) (by omega) HO.out.below HT.out).mono ?_
          rintro e w5 ⟨a5, cap5, rfl, hB5, hb5⟩
          rw [HI.out] at hB5 ⊢
          have HB5 : Hid _ := hB5
          clear hB5
          go_wp2_with fail
          refine (eq_at _ a5 _ cap5 _ _ w5 rfl HB5.out (HO.out.tail.below hb5 (Nat.le_refl _)) (by have := HM.out; simp at this ⊢; omega)).mono ?_
          rintro e w6 ⟨rfl, nq, rfl⟩
          go_wp2_with fail
          go_ret
          exact ⟨rfl, below_drewN (HO.out.below.trans (hb5.mono hlW)) _⟩
      · have k0 := HO.out.cells 0 45 rfl
        have k1 := HO.out.cells 1 48 rfl
        rw [Nat.add_zero] at k0
        have HI : Hid (Lib.itoa v = [48]) := hit
        clear hit
        go_wp2_with fail
        refine (text_one v w W (by omega) (by omega) HO.out.below HT.out).mono ?_
        rintro e w5 ⟨a5, cap5, rfl, hB5, hb5⟩
        rw [HI.out] at hB5 ⊢
        have HB5 : Hid _ := hB5
        clear hB5
        go_wp2_with fail
        refine (eq_at _ a5 _ cap5 _ _ w5 rfl HB5.out (HO.out.tail.below hb5 (Nat.le_refl _)) (by have := HM.out; simp at this ⊢; omega)).mono ?_
        rintro e w6 ⟨rfl, nq, rfl⟩
        go_wp2_with fail
        go_ret
        exact ⟨rfl, below_drewN (HO.out.below.trans (hb5.mono hlW)) _⟩
      · have k0 := HO.out.cells 0 45 rfl
        have k1 := HO.out.cells 1 c rfl
        rw [Nat.add_zero] at k0
        have hi0 : (1 : Int) < (r.length : Int) + 1 + 1 := by omega
        have HI : Hid (Lib.itoa v = 45 :: c :: r) := hit
        clear hit
        have hdis : (((r.length : Int) + 1 + 1 == 2) = true ∧ ((c.toNat : Int) == 48) = false) ∨ ((r.length : Int) + 1 + 1 == 2) = false := by
          by_cases hr : r.length = 0
          · left
            refine ⟨by rw [beq_iff_eq]; omega, ?_⟩
            rcases hnz with h | h
            · exact absurd (List.eq_nil_of_length_eq_zero hr) h
            · rw [beq_eq_false_iff_ne]; omega
          · right; rw [beq_eq_false_iff_ne]; omega
        clear hnz
        rcases hdis with ⟨h2, e48⟩ | h2
        all_goals
          go_wp2_with fail
          refine (text_one v w W (by omega) (by omega) HO.out.below HT.out).mono ?_
          rintro e w5 ⟨a5, cap5, rfl, hB5, hb5⟩
          rw [HI.out] at hB5 ⊢
          have HB5 : Hid _ := hB5
          clear hB5
          go_wp2_with fail
          refine (eq_at _ a5 _ cap5 _ _ w5 rfl HB5.out ((Bl.of_row HO.out.own).below hb5 (Nat.le_refl _)) (by have := HM.out; simp at this ⊢; omega)).mono ?_
          rintro e w6 ⟨rfl, nq, rfl⟩
          go_wp2_with fail
          go_ret
          exact ⟨rfl, below_drewN (HO.out.below.trans (hb5.mono hlW)) _⟩
      · obtain ⟨hc1, hc2⟩ := dg_bounds hc
        have k0 := HO.out.cells 0 c rfl
        rw [Nat.add_zero] at k0
        have e43 : ((c.toNat : Int) == 43) = false := by rw [beq_eq_false_iff_ne]; omega
        have e45 : ((c.toNat : Int) == 45) = false := by rw [beq_eq_false_iff_ne]; omega
        have HI : Hid (Lib.itoa v = c :: r) := hit
        clear hit hc
        by_cases h2 : ((r.length : Int) + 1 == 2) = true
        all_goals
          go_wp2_with fail
          refine (text_one v w W (by omega) (by omega) HO.out.below HT.out).mono ?_
          rintro e w5 ⟨a5, cap5, rfl, hB5, hb5⟩
          rw [HI.out] at hB5 ⊢
          have HB5 : Hid _ := hB5
          clear hB5
          go_wp2_with fail
          refine (eq_at _ a5 _ cap5 _ _ w5 rfl HB5.out ((Bl.of_row HO.out.own).below hb5 (Nat.le_refl _)) (by have := HM.out; simp at this ⊢; omega)).mono ?_
          rintro e w6 ⟨rfl, nq, rfl⟩
          go_wp2_with fail
          go_ret
          exact ⟨rfl, below_drewN (HO.out.below.trans (hb5.mono hlW)) _⟩

end Go.Proofs.Qxb6001227aDoor
