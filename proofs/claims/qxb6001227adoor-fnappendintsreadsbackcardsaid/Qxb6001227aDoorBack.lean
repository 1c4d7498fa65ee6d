/-
  THE WALK OF FnAppendIntsReadsBack (7).
-/
import Derived.Test.Qxb6001227aDoorBackParts
namespace Go.Proofs.Qxb6001227aDoor
open Go.RowKit

theorem join_pos {nt : Int} {zs : List Int} (h : zs ≠ []) : 1 ≤ (joinI nt zs).length := by
  cases zs with
  | nil => exact absurd rfl h
  | cons x r =>
    have := itoa_ne x
    simp only [joinI, List.length_append]
    omega

set_option maxRecDepth 4000 in
set_option maxHeartbeats 4000000 in
theorem back_some (nt : Int) (a0 : Option Addr) (cap0 : Nat) (bs : List UInt8) (x : Addr) (capx : Nat) (zs : List Int) (w : World) (hne : zs ≠ []) (hlen : bs.length + 8 * zs.length ≤ 1048576)
    (hZ : Bs w a0 cap0 bs) (hY : Zs w (some x) capx zs) (htab : Lib.TabIs Tryd.prog w powName .u64 Lib.pow10Tab) :
    Calls Tryd.prog 7 #[.int .i64 nt, .slice a0 bs.length cap0, .slice (some x) zs.length capx] w fun e w' => e = .returned (.bool true) ∧ Below w.heap.size w w' := by
  obtain ⟨i0, hi, hz0, hz1, hz2⟩ := info_parts info2
  have HZ : Hid (Bs w a0 cap0 bs) := hZ
  have HY : Hid (Zs w (some x) capx zs) := hY
  have HT : Hid (Lib.TabIs Tryd.prog w powName .u64 Lib.pow10Tab) := htab
  have HN : Hid (zs ≠ []) := hne
  have hnn := run_neq_slice_nil_any (P := Tryd.prog) w 34 2 (some x) zs.length capx 0 0 Tryd.underlying34
  have hl1 : bs.length ≤ 1048576 := by omega
  have hl2 : zs.length ≤ 131072 := by omega
  clear hZ hY htab hne
  go_enter Tryd.func7, Tryd.ntmps7
  go_wp2_with fail
  refine (zb21_any nt a0 (some x) bs.length cap0 zs.length capx _ (by unfold maxLen; omega) (by unfold maxLen; omega)).mono ?_
  rintro e w' ⟨⟨b, rfl⟩, hw⟩; subst w'
  cases b
  · go_wp2_with fail
    go_ret
    exact ⟨rfl, Below.refl _ _⟩
  go_wp2_with (first
    | (at_make; refine wpList_make_full _ rfl _ _ 34 rfl w.heap.size 2 i0 (.int .i64 0) 1 Tryd.underlying34 hi hz0 hz1 _ _ _ _ zs.length rfl rfl rfl rfl (by rw [hz2]; omega) (by unfold maxLen; omega) (Nat.le_refl _) ?_
       intro w1 hrow hgr
       have hb1 : Below w.heap.size w w1 := ⟨hgr.os, hgr.tape, hgr.output, hgr.size, fun k hk => hgr.block k hk (by simp)⟩
       obtain ⟨W, hcp, hown, hgW⟩ := copy_made (cap := capx) Tryd.underlying34 size2 hrow (numCells_length zs) ((Il.below HY.out.cells hb1 (Nat.le_refl _)).src) (nums_one zs)
       have hbW : Below w.heap.size w W := hb1.grown hgW hb1.size (fun k hk => by rw [← Option.some.inj hk]; exact Nat.le_refl _)
       have HX : Hid (Xs w W zs (some ⟨w.heap.size, 0, none⟩)) := ⟨hbW, Il.of_row hown, fun x hx => by injection hx with hx; subst hx; exact (hown.lt w.heap.size rfl).2⟩
       clear hrow hgr hb1 hown hgW hbW))
  clear hnn hcp
  have HLW := HX.out.below.size
  go_loop [8] (fun i => ∃ k : Nat, k ≤ zs.length ∧ i = .int .i64 k ∧ Hid (∀ y ∈ zs.take k, -1000000000000000000 < y ∧ y < 1000000000000000000)) (fun i => zs.length - (intOf i).toNat)
  case atStart => exact ⟨0, Nat.zero_le _, rfl, fun y hy => by simp at hy⟩
  case round =>
    obtain ⟨k, hk, rfl, HK⟩ := hrel
    by_cases hlt : k < zs.length
    · obtain ⟨y, hy⟩ := getElem?_of_lt' zs k hlt
      obtain ⟨b, off, ha, hc⟩ := HX.out.xs k y hy
      have hidx := idx_at34 ha zs.length zs.length k .i64 hlt
      have HY2 : Hid (zs[k]? = some y) := hy
      have hki : (k : Int) < (zs.length : Int) := by omega
      clear ha hy
      by_cases hy1 : y ≤ -1000000000000000000
      · go_wp2_with fail
        go_ret
        exact ⟨rfl, HX.out.below⟩
      · by_cases hy2 : 1000000000000000000 ≤ y
        · go_wp2_with fail
          go_ret
          exact ⟨rfl, HX.out.below⟩
        · have hy3 : -1000000000000000000 < y := by omega
          have hy4 : y < 1000000000000000000 := by omega
          go_wp2_with fail
          go_round
          case rel =>
            refine ⟨k + 1, by omega, by go_num, fun z hz => ?_⟩
            rw [List.take_add_one, HY2.out] at hz
            rcases List.mem_append.1 hz with h | h
            · exact HK.out z h
            · simp at h; subst h; exact ⟨hy3, hy4⟩
          case measure => simp [intOf]; omega
    · have hkk : k = zs.length := by omega
      subst hkk
      have HR : Hid (∀ y ∈ zs, -1000000000000000000 < y ∧ y < 1000000000000000000) := fun y hy => HK.out y (by rw [List.take_length]; exact hy)
      clear HK hlt
      go_wp2_with fail
      refine (clone_any w.heap.size a0 cap0 bs W (Bl.below HZ.out.cells HX.out.below (Nat.le_refl _)) HZ.out.nil hl1 HLW).mono ?_
      rintro e w1 ⟨a1, cap1, rfl, own1, hb1, hg1⟩
      have hs1 := hb1.size
      go_wp2_with fail
      refine (clone_any w.heap.size a1 cap1 bs w1 (Bl.of_row own1) (fun h => ?_) hl1 (by omega)).mono ?_
      · subst h
        rcases own1.2 with ⟨_, h0⟩ | ⟨g, c', cur, e, _⟩
        · exact List.eq_nil_of_length_eq_zero h0
        · cases e
      rintro e w2 ⟨a2, cap2, rfl, own2, hb2, hg2⟩
      have hs2 := hb2.size
      go_wp2_with fail
      refine (as_any w.heap.size 0 0 nt none [] w2 (World.ownsRow_nil _ _ _ _) (by omega) (by omega)).mono ?_
      rintro e w3 ⟨a3, cap3, rfl, own3, gr3⟩
      have HP : Hid (Pre w w3 nt bs zs (some ⟨w.heap.size, 0, none⟩) a1 a2 a3 cap1) := pre_of HX.out own1 hb1 hg1 own2 hb2 hg2 own3 gr3
      clear own1 hb1 hg1 own2 hb2 hg2 own3 gr3 hs1 hs2 HX
      go_wp2_with fail
      refine (zap_any w.heap.size bs.length cap1 nt a1 (some ⟨w.heap.size, 0, none⟩) zs.length _ zs w3 HP.out.own1 HP.out.below.size HP.out.xs HP.out.xne HY.out.wf (by omega) ((Lib.tabBelow_of_tabIs HT.out).on HP.out.below)).mono ?_
      rintro e w4 ⟨a4, cap4, rfl, own4, gr4⟩
      have HO : Hid (Out w w4 nt bs zs (some ⟨w.heap.size, 0, none⟩) a2 a3 a4 _ cap4) := HP.out.out own4 gr4
      clear HP own4 gr4
      have hJ1 : 1 ≤ (joinI nt zs).length := join_pos HN.out
      have hJ2 := joinI_len nt zs HY.out.wf
      obtain ⟨g, rfl, hc1, hc2, hBp, hTc⟩ := HO.out.geo (by omega)
      unfold maxLen at hc2
      have HPp : Hid (Bl w4 (some ⟨g, 0, none⟩) bs) := hBp
      have HPr : Hid (Bl w4 a2 bs) := HO.out.pre
      have HTc : Hid (∀ (i : Nat) c, (joinI nt zs)[i]? = some c → w4.cell? ⟨g, bs.length + i, none⟩ = some (.int .u8 (c.toNat : Int))) := hTc
      have HSp : Hid (Bl w4 a3 (sepOf nt)) := HO.out.sep
      have HXs : Hid (Il w4 (some ⟨w.heap.size, 0, none⟩) zs) := HO.out.xs
      have HBl : Hid (Below w.heap.size w w4) := HO.out.below
      obtain ⟨sb, so, hsa, hsc⟩ := HSp.out 0 (sep0 nt) (sep0_at nt)
      subst hsa
      rw [Nat.add_zero] at hsc
      obtain ⟨hsl1, hsl2⟩ := sepOf_len nt
      clear hBp hTc HO
      obtain ⟨L, hL⟩ : ∃ L, (joinI nt zs).length = L := ⟨_, rfl⟩
      obtain ⟨sl, hsl⟩ : ∃ sl, (sepOf nt).length = sl := ⟨_, rfl⟩
      rw [hL] at hJ1 hJ2 hc1 ⊢
      rw [hsl] at hsl1 hsl2 ⊢
      have HL : Hid ((joinI nt zs).length = L) := hL
      have HSL : Hid ((sepOf nt).length = sl) := hsl
      have hzl := HN.out
      have hz1' : 1 ≤ zs.length := List.length_pos_iff.2 hzl
      clear hL hsl hzl
      have hcz : ¬ cap4 = 0 := by omega
      have hcp : ¬ cap4 = bs.length := by omega
      have hcle : (bs.length : Int) ≤ (cap4 : Int) := by omega
      have hng : ¬ ((bs.length : Int) + (L : Int) < (bs.length : Int)) := by omega
      have hzb : ((zs.length : Int) == 0) = false := by rw [beq_eq_false_iff_ne]; omega
      go_wp2_with fail
      refine (eq_at bs.length (some ⟨g, 0, none⟩) a2 _ _ bs w4 rfl HPp.out HPr.out (by unfold maxLen; omega)).mono ?_
      rintro e w5 ⟨rfl, m5, rfl⟩
      go_wp2_with fail
      obtain ⟨cr, hcr⟩ : ∃ cr, cap4 - bs.length = cr := ⟨_, rfl⟩
      rw [hcr]
      have hcL : L ≤ cr := by omega
      have hcrM : cr ≤ 9223372036854775807 := by omega
      clear hcr hc1 hcz hcp hcle hng hzb HPp HPr hc2
      go_loopw [14, 15] (fun i k wr => ∃ (p q m : Nat), i = .int .i64 p ∧ k = .int .i64 q ∧ Hid (At nt zs (joinI nt zs) q p) ∧ wr = w4.drewN m) (fun _ k _ => zs.length - (intOf k).toNat)
      case atStart => exact ⟨0, 0, _, rfl, rfl, At.first HN.out, rfl⟩
      case round =>
        obtain ⟨p, k, m, rfl, rfl, HA, rfl⟩ := hrel
        have hk := HA.out.lt
        obtain ⟨y, hy⟩ := getElem?_of_lt' zs k hk
        have HYk : Hid (zs[k]? = some y) := hy
        have hyr := HR.out y (List.mem_of_getElem? hy)
        have HSm : Hid (smallI (Lib.itoa y) = some y) := smallI_itoa hyr.1 hyr.2
        obtain ⟨hbyt, hpq⟩ := HA.out.here hy
        have HByt : Hid (∀ (i : Nat) c, (Lib.itoa y)[i]? = some c → (joinI nt zs)[p + i]? = some c) := hbyt
        have hy1 := itoa_ne y
        obtain ⟨xb, xo, hxa, hxc⟩ := HXs.out k y hy
        have hxi := idx_at34 hxa zs.length zs.length k .i64 hk
        rw [HL.out] at hpq
        obtain ⟨q, hq⟩ : ∃ q, (Lib.itoa y).length = q := ⟨_, rfl⟩
        rw [hq] at hpq hy1
        have HQ : Hid ((Lib.itoa y).length = q) := hq
        clear hy hyr hbyt hxa hq
        by_cases hlast : k + 1 = zs.length
        · have hpL : p + q = L := by
            have := HA.out.last HYk.out hlast
            rwa [HQ.out, HL.out] at this
          go_wp2_with fail
          go_loopw [16] (fun j wr => ∃ (jj m' : Nat), p ≤ jj ∧ jj ≤ p + q ∧ j = .int .i64 jj ∧ wr = w4.drewN m') (fun j _ => p + q - (intOf j).toNat)
          case atStart => exact ⟨p, _, Nat.le_refl _, by omega, rfl, rfl⟩
          case round =>
            obtain ⟨j, m', hj1, hj2, rfl, rfl⟩ := hrel
            by_cases hjt : j < p + q
            · obtain ⟨c, hc⟩ := getElem?_of_lt' (Lib.itoa y) (j - p) (by rw [HQ.out]; omega)
              have hcell := HTc.out (p + (j - p)) c (HByt.out _ _ hc)
              have hsn := sep0_ne (nt := nt) (List.mem_of_getElem? hc)
              rw [show p + (j - p) = j by omega] at hcell
              have hjL : j < L := by omega
              have hji : (j : Int) < (L : Int) := by omega
              have hne1 : ((c.toNat : Int) == ((sep0 nt).toNat : Int)) = false := by rw [beq_eq_false_iff_ne]; omega
              have hne2 : ((c.toNat : Int) != ((sep0 nt).toNat : Int)) = true := by rw [bne_iff_ne]; omega
              have hji2 : decide ((j : Int) < (L : Int)) = true := decide_eq_true hji
              have hsl0 : (0 : Int) < (sl : Int) := by omega
              clear hc hsn
              go_wp2_with fail
              go_quiet (fail)
              go_wp2_with fail
              go_roundw
              case rel => exact ⟨j + 1, _, by omega, by omega, by go_num, rfl⟩
              case measure => simp [intOf]; omega
            · have hjL : j = L := by omega
              have hji2 : decide ((j : Int) < (L : Int)) = false := decide_eq_false (by omega)
              have hji3 : decide (j < L) = false := decide_eq_false (by omega)
              have hji4 : ¬ j < L := by omega
              have hjp : ((j : Int) == (p : Int)) = false := by rw [beq_eq_false_iff_ne]; omega
              have hkz : ¬ (zs.length : Int) ≤ (k : Int) := by omega
              have hpj : (p : Int) ≤ (j : Int) := by omega
              have hjc : (j : Int) ≤ (cr : Int) := by omega
              have hcp : ¬ cr = p := by omega
              have hje : ((j : Int) == (L : Int)) = true := by rw [beq_iff_eq]; omega
              have hke : ((k : Int) + 1 == (zs.length : Int)) = true := by rw [beq_iff_eq]; omega
              have HJ : Hid (j = L) := hjL
              clear hjL
              go_wp2_with fail
              go_quiet (fail)
              go_wp2_with fail
              refine (zsm_at (j - p) g (bs.length + p) _ (Lib.itoa y) y _ (by rw [HQ.out]; omega) HSm.out (fun i d hd => ?_) (by rw [HQ.out]; omega) (by rw [HQ.out]; unfold maxLen; omega) (by rw [HQ.out]; omega)).mono ?_
              · have := HTc.out (p + i) d (HByt.out i d hd)
                rw [Nat.add_assoc]
                exact this
              rintro e w' ⟨rfl, hw⟩; subst w'
              go_wp2_with fail
              go_ret
              exact ⟨rfl, below_drewN HBl.out _⟩
        · obtain ⟨hAn, hSb⟩ := HA.out.next HYk.out (by omega)
          have hAle := hAn.le
          have hAlt := hAn.lt
          rw [HQ.out, HSL.out] at hAn hAle
          rw [HL.out] at hAle
          rw [HQ.out] at hSb
          have HAn : Hid (At nt zs (joinI nt zs) (k + 1) (p + q + sl)) := hAn
          have HSb : Hid (∀ (i : Nat) c, (sepOf nt)[i]? = some c → (joinI nt zs)[p + q + i]? = some c) := hSb
          clear hAn hSb
          go_wp2_with fail
          go_loopw [16] (fun j wr => ∃ (jj m' : Nat), p ≤ jj ∧ jj ≤ p + q ∧ j = .int .i64 jj ∧ wr = w4.drewN m') (fun j _ => p + q - (intOf j).toNat)
          case atStart => exact ⟨p, _, Nat.le_refl _, by omega, rfl, rfl⟩
          case round =>
            obtain ⟨j, m', hj1, hj2, rfl, rfl⟩ := hrel
            by_cases hjt : j < p + q
            · obtain ⟨c, hc⟩ := getElem?_of_lt' (Lib.itoa y) (j - p) (by rw [HQ.out]; omega)
              have hcell := HTc.out (p + (j - p)) c (HByt.out _ _ hc)
              have hsn := sep0_ne (nt := nt) (List.mem_of_getElem? hc)
              rw [show p + (j - p) = j by omega] at hcell
              have hjL : j < L := by omega
              have hji : (j : Int) < (L : Int) := by omega
              have hne1 : ((c.toNat : Int) == ((sep0 nt).toNat : Int)) = false := by rw [beq_eq_false_iff_ne]; omega
              have hne2 : ((c.toNat : Int) != ((sep0 nt).toNat : Int)) = true := by rw [bne_iff_ne]; omega
              have hji2 : decide ((j : Int) < (L : Int)) = true := decide_eq_true hji
              have hsl0 : (0 : Int) < (sl : Int) := by omega
              clear hc hsn
              go_wp2_with fail
              go_quiet (fail)
              go_wp2_with fail
              go_roundw
              case rel => exact ⟨j + 1, _, by omega, by omega, by go_num, rfl⟩
              case measure => simp [intOf]; omega
            · have hjL : j = p + q := by omega
              have hcell := HTc.out (p + q) (sep0 nt) (HSb.out 0 _ (sep0_at nt))
              rw [← hjL] at hcell
              have hjL2 : j < L := by omega
              have hji : (j : Int) < (L : Int) := by omega
              have hji2 : decide ((j : Int) < (L : Int)) = true := decide_eq_true hji
              have hne1 : (((sep0 nt).toNat : Int) == ((sep0 nt).toNat : Int)) = true := by rw [beq_iff_eq]
              have hne2 : (((sep0 nt).toNat : Int) != ((sep0 nt).toNat : Int)) = false := by simp
              have hsl0 : (0 : Int) < (sl : Int) := by omega
              have hjp : ((j : Int) == (p : Int)) = false := by rw [beq_eq_false_iff_ne]; omega
              have hkz : ¬ (zs.length : Int) ≤ (k : Int) := by omega
              have hpj : (p : Int) ≤ (j : Int) := by omega
              have hjc : (j : Int) ≤ (cr : Int) := by omega
              have hcp : ¬ cr = p := by omega
              have hcj : ¬ cr = j := by omega
              have hje : ((j : Int) == (L : Int)) = false := by rw [beq_eq_false_iff_ne]; omega
              have hjs : ¬ (L : Int) < (j : Int) + (sl : Int) := by omega
              have hjs2 : (j : Int) + (sl : Int) ≤ (cr : Int) := by omega
              have hjs3 : (j : Int) ≤ (j : Int) + (sl : Int) := by omega
              have HJ : Hid (j = p + q) := hjL
              clear hjL hlast
              go_wp2_with fail
              go_quiet (fail)
              go_wp2_with fail
              refine (zsm_at (j - p) g (bs.length + p) _ (Lib.itoa y) y _ (by rw [HQ.out]; omega) HSm.out (fun i d hd => ?_) (by rw [HQ.out]; omega) (by rw [HQ.out]; unfold maxLen; omega) (by rw [HQ.out]; omega)).mono ?_
              · have := HTc.out (p + i) d (HByt.out i d hd)
                rw [Nat.add_assoc]
                exact this
              rintro e w' ⟨rfl, hw⟩; subst w'
              go_wp2_with fail
              refine (eq_at sl (some ⟨g, bs.length + j, none⟩) (some ⟨sb, so, none⟩) _ _ (sepOf nt) (w4.drewN (m' + nq)) HSL.out.symm (fun i c hc => ⟨g, bs.length + j, rfl, ?_⟩) HSp.out (by rw [HSL.out]; unfold maxLen; omega)).mono ?_
              · have := HTc.out (p + q + i) c (HSb.out i c hc)
                rw [← HJ.out, ← Nat.add_assoc] at this
                exact this
              rintro e w6 ⟨rfl, m6, rfl⟩
              go_wp2_with fail
              go_roundw
              case rel => exact ⟨j + sl, k + 1, _, by go_num, by go_num, by rw [HJ.out]; exact HAn, rfl⟩
              case measure => simp [intOf]; omega

end Go.Proofs.Qxb6001227aDoor
