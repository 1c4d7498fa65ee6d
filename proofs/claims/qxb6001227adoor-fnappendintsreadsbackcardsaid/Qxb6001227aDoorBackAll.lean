/-
  THE WALK OF FnAppendIntsReadsBack (7): no numbers; beyond the bounds; all together.
-/
import Derived.Test.Qxb6001227aDoorBack
namespace Go.Proofs.Qxb6001227aDoor
open Go.RowKit

set_option maxRecDepth 4000 in
set_option maxHeartbeats 4000000 in
theorem back_none (nt : Int) (a0 : Option Addr) (cap0 : Nat) (bs : List UInt8) (ax : Option Addr) (capx : Nat) (w : World) (hlen : bs.length ≤ 1048576)
    (hZ : Bs w a0 cap0 bs) (htab : Lib.TabIs Tryd.prog w powName .u64 Lib.pow10Tab) :
    Calls Tryd.prog 7 #[.int .i64 nt, .slice a0 bs.length cap0, .slice ax 0 capx] w fun e w' => e = .returned (.bool true) ∧ Below w.heap.size w w' := by
  obtain ⟨i0, hi, hz0, hz1, hz2⟩ := info_parts info2
  have HZ : Hid (Bs w a0 cap0 bs) := hZ
  have HT : Hid (Lib.TabIs Tryd.prog w powName .u64 Lib.pow10Tab) := htab
  have hnn := run_neq_slice_nil_any (P := Tryd.prog) w 34 2 ax 0 capx 0 0 Tryd.underlying34
  clear hZ htab
  cases ax with
  | none =>
    go_enter Tryd.func7, Tryd.ntmps7
    go_wp2_with fail
    refine (zb21_any nt a0 none bs.length cap0 0 capx _ (by unfold maxLen; omega) (by unfold maxLen; omega)).mono ?_
    rintro e w' ⟨⟨b, rfl⟩, hw⟩; subst w'
    cases b
    · go_wp2_with fail
      go_ret
      exact ⟨rfl, Below.refl _ _⟩
    go_wp2_with fail
    clear hnn
    have HX : Hid (Xs w w [] none) := ⟨Below.refl _ _, fun i x h => by simp at h, fun x hx => by cases hx⟩
    have HLW := HX.out.below.size
    go_loop [8] (fun i => i = .int .i64 0) (fun _ => 0)
    case atStart => exact rfl
    case round =>
      obtain rfl := hrel
      go_wp2_with fail
      refine (clone_any w.heap.size a0 cap0 bs w (Bl.below HZ.out.cells HX.out.below (Nat.le_refl _)) HZ.out.nil hlen HLW).mono ?_
      rintro e w1 ⟨a1, cap1, rfl, own1, hb1, hg1⟩
      have hs1 := hb1.size
      go_wp2_with fail
      refine (clone_any w.heap.size a1 cap1 bs w1 (Bl.of_row own1) (fun h => ?_) hlen (by omega)).mono ?_
      · subst h
        rcases own1.2 with ⟨_, h0⟩ | ⟨g, c', cur, e, _⟩
        · exact List.eq_nil_of_length_eq_zero h0
        · cases e
      rintro e w2 ⟨a2, cap2, rfl, own2, hb2, hg2⟩
      have hs2 := hb2.size
      go_wp2_with fail
      refine (as_any w.heap.size 0 0 nt none [] w2 (World.ownsRow_nil _ _ _ _) (by omega) (by omega)).mono ?_
      rintro e w3 ⟨a3, cap3, rfl, own3, gr3⟩
      have HP : Hid (Pre w w3 nt bs [] none a1 a2 a3 cap1) := pre_of HX.out own1 hb1 hg1 own2 hb2 hg2 own3 gr3
      clear own1 hb1 hg1 own2 hb2 hg2 own3 gr3 hs1 hs2 HX
      go_wp2_with fail
      refine (zap_any w.heap.size bs.length cap1 nt a1 none capx _ [] w3 HP.out.own1 HP.out.below.size HP.out.xs HP.out.xne (fun y hy => by simp at hy) (by simp; omega) ((Lib.tabBelow_of_tabIs HT.out).on HP.out.below)).mono ?_
      rintro e w4 ⟨a4, cap4, rfl, own4, gr4⟩
      have HO : Hid (Out w w4 nt bs [] none a2 a3 a4 _ cap4) := HP.out.out own4 gr4
      clear HP own4 gr4
      have HPp : Hid (Bl w4 a4 bs) := (Bl.of_row HO.out.own).front
      have HPr : Hid (Bl w4 a2 bs) := HO.out.pre
      have HBl : Hid (Below w.heap.size w w4) := HO.out.below
      have hown := HO.out.own
      clear HO
      simp only [joinI, List.length_nil, Nat.add_zero] at hown ⊢
      rcases hown.2 with ⟨e0, hn0⟩ | ⟨g, c, cur, e0, _, _, hc1, hc2, _⟩
      · injection e0 with e1 e2 e3
        subst e1 e3
        obtain rfl : bs = [] := List.eq_nil_of_length_eq_zero hn0
        clear hown hn0 e2
        go_wp2_with fail
        refine (eq_at 0 none a2 _ _ [] w4 rfl HPp.out HPr.out (by simp)).mono ?_
        rintro e w5 ⟨rfl, m5, rfl⟩
        go_wp2_with fail
        go_ret
        exact ⟨rfl, below_drewN HBl.out _⟩
      · injection e0 with e1 e2 e3
        subst e1 e3
        clear hown e2
        unfold maxLen at hc2
        have hcle : (bs.length : Int) ≤ (cap4 : Int) := by omega
        by_cases hcz : cap4 = bs.length
        all_goals
          go_wp2_with fail
          refine (eq_at bs.length (some ⟨g, 0, none⟩) a2 _ _ bs w4 rfl HPp.out HPr.out (by unfold maxLen; omega)).mono ?_
          rintro e w5 ⟨rfl, m5, rfl⟩
          go_wp2_with fail
          go_ret
          exact ⟨rfl, below_drewN HBl.out _⟩
  | some x =>
    go_enter Tryd.func7, Tryd.ntmps7
    go_wp2_with fail
    refine (zb21_any nt a0 (some x) bs.length cap0 0 capx _ (by unfold maxLen; omega) (by unfold maxLen; omega)).mono ?_
    rintro e w' ⟨⟨b, rfl⟩, hw⟩; subst w'
    cases b
    · go_wp2_with fail
      go_ret
      exact ⟨rfl, Below.refl _ _⟩
    go_wp2_with (first
      | (at_make; refine wpList_make_full _ rfl _ _ 34 rfl w.heap.size 2 i0 (.int .i64 0) 1 Tryd.underlying34 hi hz0 hz1 _ _ _ _ 0 rfl rfl rfl rfl (by rw [hz2]; omega) (by unfold maxLen; omega) (Nat.le_refl _) ?_
         intro w1 hrow hgr
         have hb1 : Below w.heap.size w w1 := ⟨hgr.os, hgr.tape, hgr.output, hgr.size, fun k hk => hgr.block k hk (by simp)⟩
         obtain ⟨W, hcp, hown, hgW⟩ := copy_made (cap := capx) (a := some x) (cs := []) Tryd.underlying34 size2 hrow rfl (fun j v h => by simp at h) (fun v hv => by simp at hv)
         have hbW : Below w.heap.size w W := hb1.grown hgW hb1.size (fun k hk => by rw [← Option.some.inj hk]; exact Nat.le_refl _)
         have HX : Hid (Xs w W [] (some ⟨w.heap.size, 0, none⟩)) := ⟨hbW, fun i x h => by simp at h, fun x hx => by injection hx with hx; subst hx; exact (hown.lt w.heap.size rfl).2⟩
         clear hrow hgr hb1 hown hgW hbW))
    clear hnn hcp
    have HLW := HX.out.below.size
    go_loop [8] (fun i => i = .int .i64 0) (fun _ => 0)
    case atStart => exact rfl
    case round =>
      obtain rfl := hrel
      go_wp2_with fail
      refine (clone_any w.heap.size a0 cap0 bs W (Bl.below HZ.out.cells HX.out.below (Nat.le_refl _)) HZ.out.nil hlen HLW).mono ?_
      rintro e w1 ⟨a1, cap1, rfl, own1, hb1, hg1⟩
      have hs1 := hb1.size
      go_wp2_with fail
      refine (clone_any w.heap.size a1 cap1 bs w1 (Bl.of_row own1) (fun h => ?_) hlen (by omega)).mono ?_
      · subst h
        rcases own1.2 with ⟨_, h0⟩ | ⟨g, c', cur, e, _⟩
        · exact List.eq_nil_of_length_eq_zero h0
        · cases e
      rintro e w2 ⟨a2, cap2, rfl, own2, hb2, hg2⟩
      have hs2 := hb2.size
      go_wp2_with fail
      refine (as_any w.heap.size 0 0 nt none [] w2 (World.ownsRow_nil _ _ _ _) (by omega) (by omega)).mono ?_
      rintro e w3 ⟨a3, cap3, rfl, own3, gr3⟩
      have HP : Hid (Pre w w3 nt bs [] (some ⟨w.heap.size, 0, none⟩) a1 a2 a3 cap1) := pre_of HX.out own1 hb1 hg1 own2 hb2 hg2 own3 gr3
      clear own1 hb1 hg1 own2 hb2 hg2 own3 gr3 hs1 hs2 HX
      go_wp2_with fail
      refine (zap_any w.heap.size bs.length cap1 nt a1 (some ⟨w.heap.size, 0, none⟩) 0 _ [] w3 HP.out.own1 HP.out.below.size HP.out.xs HP.out.xne (fun y hy => by simp at hy) (by simp; omega) ((Lib.tabBelow_of_tabIs HT.out).on HP.out.below)).mono ?_
      rintro e w4 ⟨a4, cap4, rfl, own4, gr4⟩
      have HO : Hid (Out w w4 nt bs [] (some ⟨w.heap.size, 0, none⟩) a2 a3 a4 _ cap4) := HP.out.out own4 gr4
      clear HP own4 gr4
      have HPp : Hid (Bl w4 a4 bs) := (Bl.of_row HO.out.own).front
      have HPr : Hid (Bl w4 a2 bs) := HO.out.pre
      have HBl : Hid (Below w.heap.size w w4) := HO.out.below
      have hown := HO.out.own
      clear HO
      simp only [joinI, List.length_nil, Nat.add_zero] at hown ⊢
      rcases hown.2 with ⟨e0, hn0⟩ | ⟨g, c, cur, e0, _, _, hc1, hc2, _⟩
      · injection e0 with e1 e2 e3
        subst e1 e3
        obtain rfl : bs = [] := List.eq_nil_of_length_eq_zero hn0
        clear hown hn0 e2
        go_wp2_with fail
        refine (eq_at 0 none a2 _ _ [] w4 rfl HPp.out HPr.out (by simp)).mono ?_
        rintro e w5 ⟨rfl, m5, rfl⟩
        go_wp2_with fail
        go_ret
        exact ⟨rfl, below_drewN HBl.out _⟩
      · injection e0 with e1 e2 e3
        subst e1 e3
        clear hown e2
        unfold maxLen at hc2
        have hcle : (bs.length : Int) ≤ (cap4 : Int) := by omega
        by_cases hcz : cap4 = bs.length
        all_goals
          go_wp2_with fail
          refine (eq_at bs.length (some ⟨g, 0, none⟩) a2 _ _ bs w4 rfl HPp.out HPr.out (by unfold maxLen; omega)).mono ?_
          rintro e w5 ⟨rfl, m5, rfl⟩
          go_wp2_with fail
          go_ret
          exact ⟨rfl, below_drewN HBl.out _⟩

set_option maxRecDepth 4000 in
set_option maxHeartbeats 1000000 in
theorem back_far (nt : Int) (a0 : Option Addr) (cap0 : Nat) (bs : List UInt8) (ax : Option Addr) (capx : Nat) (zs : List Int) (w : World) (hlen : ¬ bs.length + 8 * zs.length ≤ 1048576) (hL : bs.length ≤ maxLen) (hM : zs.length ≤ maxLen) :
    Calls Tryd.prog 7 #[.int .i64 nt, .slice a0 bs.length cap0, .slice ax zs.length capx] w fun e w' => e = .returned (.bool true) ∧ Below w.heap.size w w' := by
  unfold maxLen at hL hM
  by_cases hl1 : bs.length ≤ 1048576
  rotate_left
  · go_enter Tryd.func7, Tryd.ntmps7
    go_wp2_with fail
    refine (zb21_any nt a0 ax bs.length cap0 zs.length capx _ (by unfold maxLen; omega) (by unfold maxLen; omega)).mono ?_
    rintro e w' ⟨⟨b, rfl⟩, hw⟩; subst w'
    cases b
    all_goals
      go_wp2_with fail
      go_ret
      exact ⟨rfl, Below.refl _ _⟩
  by_cases hl2 : zs.length ≤ 131072
  all_goals
    go_enter Tryd.func7, Tryd.ntmps7
    go_wp2_with fail
    refine (zb21_any nt a0 ax bs.length cap0 zs.length capx _ (by unfold maxLen; omega) (by unfold maxLen; omega)).mono ?_
    rintro e w' ⟨⟨b, rfl⟩, hw⟩; subst w'
    cases b
    all_goals
      go_wp2_with fail
      go_ret
      exact ⟨rfl, Below.refl _ _⟩

theorem back_any (nt : Int) (a0 : Option Addr) (cap0 : Nat) (bs : List UInt8) (ax : Option Addr) (capx : Nat) (zs : List Int) (w : World) (_h0 : -9223372036854775808 ≤ nt) (_h1 : nt ≤ 9223372036854775807)
    (hZ : Bs w a0 cap0 bs) (hY : Zs w ax capx zs) (htab : Lib.TabIs Tryd.prog w powName .u64 Lib.pow10Tab) :
    Calls Tryd.prog 7 #[.int .i64 nt, .slice a0 bs.length cap0, .slice ax zs.length capx] w fun e w' => e = .returned (.bool true) ∧ Below w.heap.size w w' := by
  by_cases hlen : bs.length + 8 * zs.length ≤ 1048576
  · cases zs with
    | nil => exact back_none nt a0 cap0 bs ax capx w (by simpa using hlen) hZ htab
    | cons z zs =>
      cases ax with
      | none => exact absurd (hY.nil rfl) (by simp)
      | some x => exact back_some nt a0 cap0 bs x capx (z :: zs) w (by simp) hlen hZ hY htab
  · exact back_far nt a0 cap0 bs ax capx zs w hlen (Nat.le_trans hZ.len hZ.cap) (Nat.le_trans hY.len hY.cap)

end Go.Proofs.Qxb6001227aDoor
