/-
  THE WALK OF FnNameNumbersByFirstAppearance (5).
-/
import Derived.Test.Qxb6000977aDoors
import Derived.Test.Qxb6000977aBytes
namespace Go.Proofs.Qxb6000977a
open Go.RowKit Go.WideMaps Go.Maps

theorem zz_new (B sb mb : Nat) (a : Option Addr) (cap : Nat) (ns : List ByteArray) (N : Nat) (w : World) (t : ByteArray)
    (h : St B sb mb a cap ns N w) (ht : t.size ≤ maxLen) (hk : ix ns t = none) (hn : ns.length ≤ 1000000) (hN : N ≤ 1000000) :
    Calls Try.prog 16 #[.pointer (some ⟨sb, 0, none⟩), .string t] w fun e w' => e = .returned (.int .u64 (ns.length : Int)) ∧ ∃ a' cap', St B sb mb a' cap' (ns ++ [t]) (N + 1) w' ∧ Fr B sb mb a ns.length w w' a' := by
  refine (zz_any B sb mb a cap ns N w t h ht hn hN).mono ?_
  rw [nmI_none hk, nmL_none hk]
  exact fun e w' h => h

/-- An own row of strings, read. -/
theorem sl_row {B : Nat} {a : Option Addr} {cap : Nat} {ns : List ByteArray} {w : World} (h : w.ownsRow B 9 1 (.slice a ns.length cap) ns.length (ns.map Value.string)) : Sl w a ns := by
  intro i s hs
  have hlt : i < ns.length := (List.getElem?_eq_some_iff.1 hs).1
  rcases h.2 with ⟨e, hn⟩ | ⟨g, c, cur, e, hb, hg, h1, h2, h3, h4⟩
  · omega
  · injection e with e1 e2 e3
    subst e1
    refine ⟨g, 0, rfl, ?_⟩
    rw [cell_of_row w g _ cur 9 (0, 0) hg]
    have : (ns.map Value.string)[i]? = some (.string s) := by simp [hs]
    rw [← h4, List.getElem?_take, if_pos (by omega)] at this
    simpa using this

/-- k rounds behind: the store's names and the texts seen are one list. -/
structure RN (B : Nat) (w : World) (sb mb k : Nat) (wr : World) (a : Option Addr) (cap : Nat) (ns : List ByteArray) (av : Option Addr) (capv : Nat) : Prop where
  st : St B sb mb a cap ns k wr
  row : wr.ownsRow B 9 1 (.slice av ns.length capv) ns.length (ns.map Value.string)
  apart : blk av = none ∨ blk av ≠ blk a
  len : ns.length ≤ k
  below : Below B w wr

theorem RN.hit {B : Nat} {w : World} {sb mb k : Nat} {wr : World} {a : Option Addr} {cap : Nat} {ns : List ByteArray} {av : Option Addr} {capv : Nat} (h : RN B w sb mb k wr a cap ns av capv) : RN B w sb mb (k + 1) wr a cap ns av capv :=
  ⟨h.st.mono (by omega), h.row, h.apart, Nat.le_trans h.len (by omega), h.below⟩

theorem RN.apart1 {B : Nat} {w : World} {sb mb k : Nat} {wr : World} {a : Option Addr} {cap : Nat} {ns : List ByteArray} {av : Option Addr} {capv : Nat} (h : RN B w sb mb k wr a cap ns av capv)
    {w1 : World} {a' : Option Addr} (hfr : Fr B sb mb a ns.length wr w1 a') : blk av = none ∨ blk av ≠ blk a' := by
  cases hv : blk av with
  | none => exact .inl rfl
  | some g =>
    right
    have hlt := (h.row.lt g (by rw [ownBlock_slice]; exact hv)).2
    have hne : blk av ≠ blk a := by
      rcases h.apart with h1 | h1
      · rw [hv] at h1; cases h1
      · exact h1
    rcases hfr.loc with e | ⟨g', e, hg'⟩
    · rw [e, ← hv]; exact hne
    · rw [e]; intro e'; have := Option.some.inj e'; omega

theorem RN.miss {B : Nat} {w : World} {sb mb k : Nat} {wr : World} {a : Option Addr} {cap : Nat} {ns : List ByteArray} {av : Option Addr} {capv : Nat} (h : RN B w sb mb k wr a cap ns av capv)
    {t : ByteArray} {w1 w2 : World} {a' : Option Addr} {cap' : Nat} (hst : St B sb mb a' cap' (ns ++ [t]) (k + 1) w1) (hfr : Fr B sb mb a ns.length wr w1 a') {o : Obj} {av' : Option Addr} {capv' : Nat}
    (hrow2 : w2.ownsRow B 9 1 (.slice av' (ns.length + 1) capv') (ns.length + 1) (ns.map Value.string ++ [.string t])) (hg2 : (w1.alloc o).grownBy w2 (Value.slice av ns.length capv).ownBlock)
    (hloc : (Value.slice av' (ns.length + 1) capv').ownBlock = (Value.slice av ns.length capv).ownBlock ∨ (Value.slice av' (ns.length + 1) capv').ownBlock = some (w1.alloc o).heap.size) :
    RN B w sb mb (k + 1) w2 a' cap' (ns ++ [t]) av' capv' := by
  have hap := h.apart1 hfr
  have hrow1 := hfr.rows _ _ _ h.row (Nat.le_refl _)
  rw [ownBlock_slice] at hg2
  rw [ownBlock_slice, ownBlock_slice] at hloc
  have n1 : some sb ≠ blk av := fun e => hst.not_sb (by decide) hrow1 (by rw [ownBlock_slice]; exact e.symm)
  have n2 : some mb ≠ blk av := fun e => hst.not_mb hrow1 (by rw [ownBlock_slice]; exact e.symm)
  have n3 : blk a' = none ∨ blk a' ≠ blk av := by
    rcases hap with e | e
    · cases ha : blk a' with
      | none => exact .inl rfl
      | some g => right; rw [e]; simp
    · exact .inr (fun e' => e e'.symm)
  have hst1 : St B sb mb a' cap' (ns ++ [t]) (k + 1) (w1.alloc o) := hst.grown (World.grownBy_alloc w1 o none) (by simp) (by simp) (by cases blk a' <;> simp)
  have hst2 := hst1.grown hg2 n1 n2 n3
  refine ⟨hst2, by simpa using hrow2, ?_, by have := h.len; simp; omega, ?_⟩
  · rcases hloc with e | e
    · rw [e]; exact hap
    · right
      rw [e]
      intro e'
      have hlt := (hst.row.lt (w1.alloc o).heap.size (by rw [ownBlock_slice]; exact e'.symm)).2
      simp at hlt
      omega
  · have b1 := h.below.trans (hfr.below h.st)
    have hB := hst.hB
    refine (b1.alloc hB o).grown hg2 (by simp; omega) (fun g hg => ?_)
    exact (hrow1.lt g (by rw [ownBlock_slice]; exact hg)).1

theorem RN.start {w w1 w2 : World} {sb mb n : Nat} (hst : St w.heap.size sb mb none 0 [] 0 w1) (hb : Below w.heap.size w w1) (hrow : w2.ownsRow w.heap.size 9 1 (.slice (some ⟨w1.heap.size, 0, none⟩) 0 n) 0 []) (hgr : w1.grownBy w2 none) :
    RN w.heap.size w sb mb 0 w2 none 0 [] (some ⟨w1.heap.size, 0, none⟩) n :=
  ⟨hst.grown hgr (by simp) (by simp) (.inl rfl), hrow, .inr (by simp [blk]), Nat.le_refl _, hb.grown hgr hb.size (fun k e => by cases e)⟩

set_option maxHeartbeats 1000000 in
theorem num_any (a0 : Option Addr) (cap0 : Nat) (ss : List ByteArray) (w : World) (hS : Sl w a0 ss) (hL : ss.length ≤ maxLen) (hz : ∀ s ∈ ss, s.size ≤ maxLen) :
    Calls Try.prog 5 #[.slice a0 ss.length cap0] w fun e w' => e = .returned (.bool true) ∧ Below w.heap.size w w' := by
  obtain ⟨i0, hi, hz0, hz1, hz2⟩ := info_parts info9
  have HS : Hid (Sl w a0 ss) := hS
  have HZ : Hid (∀ s ∈ ss, s.size ≤ maxLen) := hz
  have HL : Hid (ss.length ≤ maxLen) := hL
  clear hS hz hL
  by_cases h4 : ss.length ≤ 4096
  · go_enter Try.func5, Try.ntmps5
    go_wp2_with fail
    refine (zb13_any a0 cap0 ss _ HS.out HL.out).mono ?_
    rintro e w' ⟨⟨b, rfl⟩, hw⟩; subst w'
    cases b
    · go_wp2_with fail
      go_ret
      exact ⟨rfl, Below.refl _ _⟩
    · go_wp2_with fail
      refine (sb_any a0 cap0 ss _ HS.out HL.out).mono ?_
      rintro e w' ⟨⟨r, rfl⟩, hw⟩; subst w'
      go_wp2_with fail
      · go_ret
        exact ⟨rfl, Below.refl _ _⟩
      · refine (new_any _ _ (Nat.le_refl _)).mono ?_
        rintro e w1 ⟨rfl, hst, hb1⟩
        go_wp2_with (first
          | (at_make; refine wpList_make_own _ rfl _ _ 28 rfl w.heap.size 9 i0 (.string ByteArray.empty) 1 Try.underlying28 hi hz0 hz1 _ _ _ ss.length rfl rfl rfl (by rw [hz2]; omega) (by unfold maxLen; omega) hb1.size ?_
             intro w2 hrow hgr))
        have HR0 := RN.start hst hb1 hrow hgr
        clear hst hb1 hrow hgr
        generalize w.heap.size + 1 = sb at *
        go_loopw [4, 5] (fun v i wr => ∃ k : Nat, k ≤ ss.length ∧ i = .int .i64 k ∧ ∃ a cap ns av capv, v = .slice av ns.length capv ∧ RN w.heap.size w sb w.heap.size k wr a cap ns av capv) (fun _ i _ => ss.length - (intOf i).toNat)
        case atStart => exact ⟨0, Nat.zero_le _, rfl, _, _, [], _, _, rfl, HR0⟩
        case round =>
          clear HR0
          obtain ⟨k, hk, rfl, a, cap, ns, av, capv, rfl, hR⟩ := hrel
          have hnl := hR.len
          by_cases hlt : k < ss.length
          · obtain ⟨t, hs⟩ := getElem?_of_lt ss k hlt
            obtain ⟨b, off, ha, hc⟩ := HS.out.below hR.below (Nat.le_refl _) k t hs
            have hidx := idx_at ha ss.length cap0 k .i64 hlt
            have hts := HZ.out t (List.mem_of_getElem? hs)
            clear ha hs
            have hki : (k : Int) < (ss.length : Int) := by omega
            go_wp2_with fail
            cases hx : ix ns t with
            | some q =>
              have HX : Hid (ix ns t = some q) := hx
              have hql := ix_lt ns t q hx
              clear hx
              refine (zz_hit _ _ _ a cap ns _ _ t q hR.st hts HX.out).mono ?_
              rintro e w' ⟨rfl, hw⟩; subst w'
              go_wp2_with fail
              refine (io_any av capv ns t _ (sl_row hR.row) (by unfold maxLen; omega)).mono ?_
              rintro e w' ⟨he, hw⟩; subst w'
              rw [ixI_some HX.out] at he
              subst he
              go_wp2_with fail
              go_roundw
              case rel => exact ⟨k + 1, by omega, by go_num, _, _, _, _, _, rfl, hR.hit⟩
              case measure => simp [intOf]; omega
            | none =>
              have HX : Hid (ix ns t = none) := hx
              clear hx
              refine (zz_new _ _ _ a cap ns _ _ t hR.st hts HX.out (by omega) (by omega)).mono ?_
              rintro e w3 ⟨rfl, a', cap', hst', hfr⟩
              have hrow1 := hfr.rows _ _ _ hR.row (Nat.le_refl _)
              go_wp2_with fail
              refine (io_any av capv ns t _ (sl_row hrow1) (by unfold maxLen; omega)).mono ?_
              rintro e w' ⟨he, hw⟩; subst w'
              rw [ixI_none HX.out] at he
              subst he
              have hB3 := hst'.hB
              go_wp2_with (first
                | (at_builtin; refine wpList_append_keep _ rfl _ _ 28 rfl w.heap.size 9 i0 (.string ByteArray.empty) 1 16 Try.underlying28 hi hz0 hz1 hz2 rfl (by decide) _ ns.length (ns.map Value.string) rfl (hrow1.alloc _) ⟨w3.heap.size, 0, none⟩ 1 1 [.string t] rfl rfl (cell_one_new _ _ _) (one_string t) (by unfold maxLen; omega) (by omega) (by simp; omega) (by decide) ?_
                   intro av' capv' w4 hrow2 hg2 hloc hkeep
                   have HR2 := hR.miss hst' hfr hrow2 hg2 hloc
                   clear hR hst' hfr hrow2 hg2 hloc hkeep hrow1 hc hidx))
              go_roundw
              case rel => exact ⟨k + 1, by omega, by go_num, _, _, _, _, _, by simp, HR2⟩
              case measure => simp [intOf]; omega
          · go_wp2_with fail
            refine (names_any _ _ _ a cap ns _ _ hR.st).mono ?_
            rintro e w' ⟨rfl, hw⟩; subst w'
            go_wp2_with fail
            refine (same_any a av cap capv ns _ hR.st.sl (sl_row hR.row) (by unfold maxLen; omega)).mono ?_
            rintro e w' ⟨rfl, nq, rfl⟩
            go_wp2_with fail
            go_ret
            exact ⟨rfl, below_drewN hR.below _⟩
  · go_enter Try.func5, Try.ntmps5
    go_wp2_with fail
    refine (zb13_any a0 cap0 ss _ HS.out HL.out).mono ?_
    rintro e w' ⟨⟨b, rfl⟩, hw⟩; subst w'
    cases b
    all_goals
      go_wp2_with fail
      go_ret
      exact ⟨rfl, Below.refl _ _⟩

end Go.Proofs.Qxb6000977a
