/-
  THE WALK OF FnCutForgetsWhatCameAfterTheMark (7).
-/
import Derived.Test.Qxb6000977aTwo
import Derived.Test.Qxb6000977aBytes
namespace Go.Proofs.Qxb6000977a
open Go.RowKit Go.WideMaps Go.Maps

set_option maxHeartbeats 4000000 in
theorem cut7_any (a0 : Option Addr) (cap0 : Nat) (xa : List ByteArray) (a1 : Option Addr) (cap1 : Nat) (xb : List ByteArray) (a2 : Option Addr) (cap2 : Nat) (xc : List ByteArray) (w : World) (hS0 : Sl w a0 xa) (hL0 : xa.length ≤ maxLen) (hz0 : ∀ s ∈ xa, s.size ≤ maxLen) (hS1 : Sl w a1 xb) (hL1 : xb.length ≤ maxLen) (hz1 : ∀ s ∈ xb, s.size ≤ maxLen) (hS2 : Sl w a2 xc) (hL2 : xc.length ≤ maxLen) (hz2 : ∀ s ∈ xc, s.size ≤ maxLen) :
    Calls Try.prog 7 #[.slice a0 xa.length cap0, .slice a1 xb.length cap1, .slice a2 xc.length cap2] w fun e w' => e = .returned (.bool true) ∧ Below w.heap.size w w' := by
  have HS0 : Hid (Sl w a0 xa) := hS0
  have HZ0 : Hid (∀ s ∈ xa, s.size ≤ maxLen) := hz0
  have HL0 : Hid (xa.length ≤ maxLen) := hL0
  have HS1 : Hid (Sl w a1 xb) := hS1
  have HZ1 : Hid (∀ s ∈ xb, s.size ≤ maxLen) := hz1
  have HL1 : Hid (xb.length ≤ maxLen) := hL1
  have HS2 : Hid (Sl w a2 xc) := hS2
  have HZ2 : Hid (∀ s ∈ xc, s.size ≤ maxLen) := hz2
  have HL2 : Hid (xc.length ≤ maxLen) := hL2
  clear hS0 hz0 hL0 hS1 hz1 hL1 hS2 hz2 hL2
  by_cases h0 : xa.length ≤ 4096
  rotate_left
  · go_enter Try.func7, Try.ntmps7
    go_wp2_with fail
    refine (zb21_any a0 cap0 xa a1 cap1 xb a2 cap2 xc _ HS0.out HL0.out HS1.out HL1.out HS2.out HL2.out).mono ?_
    rintro e w' ⟨⟨b, rfl⟩, hw⟩; subst w'
    cases b
    all_goals
      go_wp2_with fail
      go_ret
      exact ⟨rfl, Below.refl _ _⟩
  by_cases h1 : xb.length ≤ 4096
  rotate_left
  · go_enter Try.func7, Try.ntmps7
    go_wp2_with fail
    refine (zb21_any a0 cap0 xa a1 cap1 xb a2 cap2 xc _ HS0.out HL0.out HS1.out HL1.out HS2.out HL2.out).mono ?_
    rintro e w' ⟨⟨b, rfl⟩, hw⟩; subst w'
    cases b
    all_goals
      go_wp2_with fail
      go_ret
      exact ⟨rfl, Below.refl _ _⟩
  by_cases h2 : xc.length ≤ 4096
  rotate_left
  · go_enter Try.func7, Try.ntmps7
    go_wp2_with fail
    refine (zb21_any a0 cap0 xa a1 cap1 xb a2 cap2 xc _ HS0.out HL0.out HS1.out HL1.out HS2.out HL2.out).mono ?_
    rintro e w' ⟨⟨b, rfl⟩, hw⟩; subst w'
    cases b
    all_goals
      go_wp2_with fail
      go_ret
      exact ⟨rfl, Below.refl _ _⟩
  go_enter Try.func7, Try.ntmps7
  go_wp2_with fail
  refine (zb21_any a0 cap0 xa a1 cap1 xb a2 cap2 xc _ HS0.out HL0.out HS1.out HL1.out HS2.out HL2.out).mono ?_
  rintro e w' ⟨⟨b, rfl⟩, hw⟩; subst w'
  cases b
  · go_wp2_with fail
    go_ret
    exact ⟨rfl, Below.refl _ _⟩
  go_wp2_with fail
  refine (sb_any a0 cap0 xa _ HS0.out HL0.out).mono ?_
  rintro e w' ⟨⟨r0, rfl⟩, hw⟩; subst w'
  go_wp2_with fail
  refine (sb_any a1 cap1 xb _ HS1.out HL1.out).mono ?_
  rintro e w' ⟨⟨r1, rfl⟩, hw⟩; subst w'
  go_wp2_with fail
  refine (sb_any a2 cap2 xc _ HS2.out HL2.out).mono ?_
  rintro e w' ⟨⟨r2, rfl⟩, hw⟩; subst w'
  go_wp2_with fail
  · go_ret
    exact ⟨rfl, Below.refl _ _⟩
  refine (new_any _ _ (Nat.le_refl _)).mono ?_
  rintro e w1 ⟨rfl, hst, hb1⟩
  go_wp2_with fail
  generalize w.heap.size + 1 = sb at *
  go_loopw [8] (fun i wr => ∃ k : Nat, k ≤ xa.length ∧ i = .int .i64 k ∧ ∃ a cap, St w.heap.size sb w.heap.size a cap (nmAll [] (xa.take k)) k wr ∧ Below w.heap.size w wr) (fun i _ => xa.length - (intOf i).toNat)
  case atStart => exact ⟨0, Nat.zero_le _, rfl, _, _, hst, hb1⟩
  case round =>
    clear hst hb1
    obtain ⟨k, hk, rfl, a, cap, hst, hb⟩ := hrel
    have hnl := (nmAll_length (xa.take k) []).2
    simp only [List.length_nil, Nat.zero_add, List.length_take] at hnl
    by_cases hlt : k < xa.length
    · obtain ⟨t, hs⟩ := getElem?_of_lt xa k hlt
      obtain ⟨b, off, ha, hc⟩ := HS0.out.below hb (Nat.le_refl _) k t hs
      have hidx := idx_at ha xa.length cap0 k .i64 hlt
      have hts := HZ0.out t (List.mem_of_getElem? hs)
      have HT : Hid (nmAll [] (xa.take (k + 1)) = nmL (nmAll [] (xa.take k)) t) := nmAll_take [] xa hs
      clear ha hs
      generalize nmAll [] (xa.take k) = ns at *
      go_wp2_with fail
      refine (zz_any _ _ _ a cap ns _ _ t hst hts (by omega) (by omega)).mono ?_
      rintro e w' ⟨rfl, a', cap', hst', hfr⟩
      have hb' := hb.trans (hfr.below hst)
      clear hst hfr hc hidx
      go_wp2_with fail
      go_roundw
      case rel => exact ⟨k + 1, by omega, by go_num, a', cap', by rw [HT.out]; exact hst', hb'⟩
      case measure => simp [intOf]; omega
    · have hkk : k = xa.length := by omega
      subst hkk
      rw [List.take_length] at hst
      have hnd : Hid ((nmAll [] xa).Nodup) := nmAll_nodup xa List.nodup_nil
      have hns : Hid (∀ s ∈ nmAll [] xa, s.size ≤ maxLen) := fun s hs => (nmAll_mem xa [] hs).elim (fun h => by simp at h) (fun h => HZ0.out s h)
      have hnl0 := (nmAll_length xa []).2
      simp only [List.length_nil, Nat.zero_add] at hnl0
      clear hnl hk
      generalize hE : nmAll [] xa = ns0 at *
      have HE : Hid (nmAll [] xa = ns0) := hE
      clear hE
      go_wp2_with fail
      refine (names_any _ _ _ a cap ns0 _ _ hst).mono ?_
      rintro e w' ⟨rfl, hw⟩; subst w'
      go_wp2_with fail
      refine (mark_any a ns0.length cap _).mono ?_
      rintro e w2 ⟨rfl, hb2⟩
      have hM := Mkd.start hst hb hb2
      clear hst hb hb2
      go_wp2_with fail
      generalize w2.alloc (.cells #[.slice none 0 0, .slice none 0 0, .slice none 0 0, .slice a ns0.length cap] 44) = w3 at *
      generalize w2.heap.size = mk at *
      go_loopw [10] (fun i wr => ∃ k : Nat, k ≤ xb.length ∧ i = .int .i64 k ∧ ∃ a' cap', Mkd w.heap.size w sb w.heap.size mk a cap ns0 (nmAll ns0 (xb.take k)) (xa.length + k) wr a' cap') (fun i _ => xb.length - (intOf i).toNat)
      case atStart => exact ⟨0, Nat.zero_le _, rfl, _, _, hM⟩
      case round =>
        clear hM
        obtain ⟨k, hk, rfl, av, capv, hM⟩ := hrel
        have hnl := nmAll_length (xb.take k) ns0
        simp only [List.length_take] at hnl
        by_cases hlt : k < xb.length
        · obtain ⟨t, hs⟩ := getElem?_of_lt xb k hlt
          obtain ⟨b, off, ha, hc⟩ := HS1.out.below hM.below (Nat.le_refl _) k t hs
          have hidx := idx_at ha xb.length cap1 k .i64 hlt
          have hts := HZ1.out t (List.mem_of_getElem? hs)
          have HT : Hid (nmAll ns0 (xb.take (k + 1)) = nmL (nmAll ns0 (xb.take k)) t) := nmAll_take ns0 xb hs
          clear ha hs
          generalize nmAll ns0 (xb.take k) = ns at *
          go_wp2_with fail
          refine (zz_any _ _ _ av capv ns _ _ t hM.st hts (by omega) (by omega)).mono ?_
          rintro e w' ⟨rfl, a', cap', hst', hfr⟩
          have hM' := hM.name hnl.1 hst' hfr
          clear hM hst' hfr hc hidx
          go_wp2_with fail
          go_roundw
          case rel => exact ⟨k + 1, by omega, by go_num, a', cap', by rw [HT.out]; exact hM'⟩
          case measure => simp [intOf]; omega
        · have hkk : k = xb.length := by omega
          subst hkk
          rw [List.take_length] at hM
          clear hnl hk
          obtain ⟨rest, hrest⟩ := nmAll_prefix xb ns0
          have hnd1 : Hid ((ns0 ++ rest).Nodup) := hrest ▸ nmAll_nodup xb hnd.out
          have hns1 : Hid (∀ s ∈ ns0 ++ rest, s.size ≤ maxLen) := fun s hs => (nmAll_mem xb ns0 (hrest ▸ hs)).elim (fun h => hns.out s h) (fun h => HZ1.out s h)
          rw [hrest] at hM
          clear hrest
          obtain ⟨m0, m1, m2, m3⟩ := hM.cells
          go_wp2_with fail
          refine (zcut_any _ _ _ av a capv cap ns0 rest _ _ hM.st hM.mrow hnd1.out hns1.out).mono ?_
          rintro e w' ⟨rfl, hst', hfc⟩
          have hM' := hM.cut hst' hfc
          clear hM hst' hfc m0 m1 m2 m3 hnd1 hns1
          have hM := hM'
          clear hM'
          go_wp2_with fail
          refine (new_any w.heap.size _ hM.st.hB).mono ?_
          rintro e w5 ⟨rfl, hsf, hb5⟩
          have hT := Two.start hM.st hsf hb5
          have hbw := hM.below.trans (hb5.mono hM.st.hB)
          clear hM hsf hb5
          go_wp2_with fail
          generalize w'.heap.size + 1 = fb at *
          generalize w'.heap.size = fmb at *
          go_loopw [12] (fun i wr => ∃ k : Nat, k ≤ xa.length ∧ i = .int .i64 k ∧ ∃ af capf, Two w.heap.size sb w.heap.size fb fmb a cap af capf ns0 (nmAll [] (xa.take k)) (xa.length + xb.length) k wr ∧ Below w.heap.size w wr) (fun i _ => xa.length - (intOf i).toNat)
          case atStart => exact ⟨0, Nat.zero_le _, rfl, _, _, hT, hbw⟩
          case round =>
            clear hT hbw
            obtain ⟨k, hk, rfl, af, capf, hT, hb⟩ := hrel
            have hnl := (nmAll_length (xa.take k) []).2
            simp only [List.length_nil, Nat.zero_add, List.length_take] at hnl
            by_cases hlt : k < xa.length
            · obtain ⟨t, hs⟩ := getElem?_of_lt xa k hlt
              obtain ⟨b, off, ha, hc⟩ := HS0.out.below hb (Nat.le_refl _) k t hs
              have hidx := idx_at ha xa.length cap0 k .i64 hlt
              have hts := HZ0.out t (List.mem_of_getElem? hs)
              have HT : Hid (nmAll [] (xa.take (k + 1)) = nmL (nmAll [] (xa.take k)) t) := nmAll_take [] xa hs
              clear ha hs
              generalize nmAll [] (xa.take k) = ns at *
              go_wp2_with fail
              refine (zz_any _ _ _ af capf ns _ _ t hT.f hts (by omega) (by omega)).mono ?_
              rintro e w' ⟨rfl, a', cap', hst', hfr⟩
              have hb' := hb.trans (hfr.below hT.f)
              have hT' := (hT.symm.left hst' hfr).symm
              clear hT hst' hfr hc hidx
              go_wp2_with fail
              go_roundw
              case rel => exact ⟨k + 1, by omega, by go_num, a', cap', by rw [HT.out]; exact hT', hb'⟩
              case measure => simp [intOf]; omega
            · have hkk : k = xa.length := by omega
              subst hkk
              rw [List.take_length, HE.out] at hT
              clear hnl hk
              go_wp2_with fail
              refine (names_any _ _ _ a cap ns0 _ _ hT.s).mono ?_
              rintro e w' ⟨rfl, hw⟩; subst w'
              go_wp2_with fail
              refine (names_any _ _ _ af capf ns0 _ _ hT.f).mono ?_
              rintro e w' ⟨rfl, hw⟩; subst w'
              go_wp2_with fail
              refine (same_any a af cap capf ns0 _ hT.s.sl hT.f.sl (by unfold maxLen; omega)).mono ?_
              rintro e w' ⟨rfl, nq, rfl⟩
              have hT0 := hT.drewN nq
              have hb0 := below_drewN hb nq
              clear hT hb
              go_wp2_with fail
              go_loopw [13] (fun i wr => ∃ k : Nat, k ≤ xc.length ∧ i = .int .i64 k ∧ ∃ a cap af capf, Two w.heap.size sb w.heap.size fb fmb a cap af capf (nmAll ns0 (xc.take k)) (nmAll ns0 (xc.take k)) (xa.length + xb.length + k) (xa.length + k) wr ∧ Below w.heap.size w wr) (fun i _ => xc.length - (intOf i).toNat)
              case atStart => exact ⟨0, Nat.zero_le _, rfl, _, _, _, _, hT0, hb0⟩
              case round =>
                clear hT0 hb0
                obtain ⟨k, hk, rfl, a, cap, af, capf, hT, hb⟩ := hrel
                have hnl := (nmAll_length (xc.take k) ns0).2
                simp only [List.length_take] at hnl
                by_cases hlt : k < xc.length
                · obtain ⟨t, hs⟩ := getElem?_of_lt xc k hlt
                  obtain ⟨b, off, ha, hc⟩ := HS2.out.below hb (Nat.le_refl _) k t hs
                  have hidx := idx_at ha xc.length cap2 k .i64 hlt
                  have hbl : Hid (b < w.heap.size) := by
                    obtain ⟨b', off', ha', hc'⟩ := HS2.out k t hs
                    rw [ha] at ha'
                    injection ha' with ha'
                    injection ha' with e1 e2
                    rw [e1]
                    exact World.block_lt_of_cell? w _ hc'
                  have hts := HZ2.out t (List.mem_of_getElem? hs)
                  have HT : Hid (nmAll ns0 (xc.take (k + 1)) = nmL (nmAll ns0 (xc.take k)) t) := nmAll_take ns0 xc hs
                  clear ha hs
                  generalize nmAll ns0 (xc.take k) = ns at *
                  have hT1 := hT.drewN 1
                  have hb1 := below_drewN hb 1
                  clear hT hb
                  go_wp2_with fail
                  go_region_held3 (fun w' => w'.cell? ⟨b, off + k, none⟩ = some (.string t)) (go_keep)
                    (first
                      | (go_at_call_of 16 (Value.pointer (some (Addr.mk sb 0 none)))
                         refine (zz_any _ _ _ a cap ns _ _ t hT1.s hts (by omega) (by omega)).mono ?_
                         rintro e w6 ⟨rfl, a6, cap6, hst6, hfr6⟩
                         have hb6 := hb1.trans (hfr6.below hT1.s)
                         have hc6 : w6.cell? ⟨b, off + k, none⟩ = some (.string t) := ((hfr6.below hT1.s).cell (p := ⟨b, off + k, none⟩) hbl.out).trans hc
                         have hT6 := hT1.left hst6 hfr6
                         clear hst6 hfr6 hT1 hb1)
                      | (go_at_call_of 16 (Value.pointer (some (Addr.mk fb 0 none)))
                         refine (zz_any _ _ _ af capf ns _ _ t hT6.f hts (by omega) (by omega)).mono ?_
                         rintro e w7 ⟨rfl, a7, cap7, hst7, hfr7⟩
                         have hb7 := hb6.trans (hfr7.below hT6.f)
                         have hc7 : w7.cell? ⟨b, off + k, none⟩ = some (.string t) := ((hfr7.below hT6.f).cell (p := ⟨b, off + k, none⟩) hbl.out).trans hc6
                         have hT7 := (hT6.symm.left hst7 hfr7).symm
                         clear hst7 hfr7 hT6 hb6))
                  go_wp2_with fail
                  go_roundw
                  case rel => exact ⟨k + 1, by omega, by go_num, _, _, _, _, by rw [HT.out]; exact hT7, hb7⟩
                  case measure => simp [intOf]; omega
                · have hkk : k = xc.length := by omega
                  subst hkk
                  rw [List.take_length] at hT hnl
                  clear hk
                  generalize nmAll ns0 xc = ns at *
                  go_wp2_with fail
                  refine (names_any _ _ _ a cap ns _ _ hT.s).mono ?_
                  rintro e w' ⟨rfl, hw⟩; subst w'
                  go_wp2_with fail
                  refine (names_any _ _ _ af capf ns _ _ hT.f).mono ?_
                  rintro e w' ⟨rfl, hw⟩; subst w'
                  go_wp2_with fail
                  refine (same_any a af cap capf ns _ hT.s.sl hT.f.sl (by unfold maxLen; omega)).mono ?_
                  rintro e w' ⟨rfl, nq, rfl⟩
                  go_wp2_with fail
                  go_ret
                  exact ⟨rfl, below_drewN hb nq⟩

end Go.Proofs.Qxb6000977a
