/-
  hb1DecodeDecimal (16) AT THE TEXTS THAT appendDecimal WRITES: an exponent.
-/
import Derived.Test.Qxb6001227aDoorDecDot
import Derived.Test.Qxb6001227aDoorSmall
namespace Go.Proofs.Qxb6001227aDoor
open Go.RowKit

/-- t digits behind the first gathered. -/
structure RD (w wr : World) (c0 : UInt8) (R : List UInt8) (t : Nat) (a : Option Addr) (cap : Nat) : Prop where
  own : wr.ownsRow w.heap.size 5 1 (.slice a (t + 1) cap) (t + 1) (Lib.byteCells (c0 :: R.take t))
  below : Below w.heap.size w wr
theorem RD.full {w wr : World} {c0 : UInt8} {R : List UInt8} {t : Nat} {a : Option Addr} {cap : Nat} (h : RD w wr c0 R t a cap) (ht : R.take t = R := by rfl) : wr.ownsRow w.heap.size 5 1 (.slice a (t + 1) cap) (t + 1) (Lib.byteCells (c0 :: R)) := by
  have := h.own
  rwa [ht] at this

set_option maxRecDepth 100000 in
set_option maxHeartbeats 4000000 in
theorem dec_exp1 (neg : Bool) (g o m o1 n cap : Nat) (B : List UInt8) (M X R E : List UInt8) (d0 sg : UInt8) (x v : Int) (w : World) (hS : Start w neg g o m o1 n) (hn : n = B.length) (hm4 : m ≤ 4000000) (hc1 : m + 1 ≤ cap) (hc2 : cap ≤ 9223372036854775807) (hB : Body w g o1 B)
    (hmd : ∀ c ∈ M, ¬ c.toNat = 101) (hd0 : 48 ≤ d0.toNat ∧ d0.toNat ≤ 57) (hrd : ∀ c ∈ R, 48 ≤ c.toNat ∧ c.toNat ≤ 57) (hed : ∀ c ∈ E, 48 ≤ c.toNat ∧ c.toNat ≤ 57) (hBM : B = M ++ 101 :: X) (hXE : X = sg :: E) (hve : valD E = v) (hv1 : 0 ≤ v) (hv2 : v ≤ 9223372036854775807) (h2 : 2 ≤ E.length) (h19 : E.length ≤ 19)
    (hsg : (sg = 43 ∧ x = v) ∨ (sg = 45 ∧ x = -v)) (hMR : M = [d0]) (hR0 : R = []) :
    Calls Tryd.prog 16 #[.slice (some ⟨g, o, none⟩) (m + 1) cap] w fun e w' => Decoded neg (d0 :: R) x e ∧ Below w.heap.size w w' := by
  obtain ⟨i0, hi, hz0, hz1, hz2⟩ := info_parts info5
  have HMD : Hid (∀ c ∈ M, ¬ c.toNat = 101) := hmd
  have HRD : Hid (∀ c ∈ R, 48 ≤ c.toNat ∧ c.toNat ≤ 57) := hrd
  have HED : Hid (∀ c ∈ E, 48 ≤ c.toNat ∧ c.toNat ≤ 57) := hed
  have HXE : Hid (X = sg :: E) := hXE
  have HVE : Hid (valD E = v) := hve
  have HSG : Hid ((sg = 43 ∧ x = v) ∨ (sg = 45 ∧ x = -v)) := hsg
  obtain ⟨p, hp⟩ : ∃ p, M.length = p := ⟨_, rfl⟩
  obtain ⟨q, hq⟩ : ∃ q, X.length = q := ⟨_, rfl⟩
  obtain ⟨e, he⟩ : ∃ e, E.length = e := ⟨_, rfl⟩
  obtain ⟨r, hr⟩ : ∃ r, R.length = r := ⟨_, rfl⟩
  have hqe : q = e + 1 := by rw [← hq, hXE, ← he]; simp
  have hqe1 : q ≤ e + 1 := by omega
  have hqe2 : e + 1 ≤ q := by omega
  have hq3 : 3 ≤ (q : Int) := by omega
  have hq20 : (q : Int) ≤ 20 := by omega
  have hqi : (0 : Int) < (q : Int) := by omega
  have hnpq : n = p + 1 + q := by rw [hn, hBM]; simp; omega
  have hp1 : p = 1 := by rw [← hp, hMR]; rfl
  have hp1' : 1 ≤ p := by omega
  have HBM : Hid (B = M ++ 101 :: X) := hBM
  have hb1 : 1 ≤ B.length := by omega
  have hdig : ∀ c, B[0]? = some c → 48 ≤ c.toNat ∧ c.toNat ≤ 57 := fun c hc => by
    have h := front_at hBM (by omega) hc
    rw [hMR] at h
    simp at h
    subst h
    exact hd0
  have HB : Hid (Body w g o1 B) := hB
  have HN : Hid (n = B.length) := hn
  have HS : Hid (Start w neg g o m o1 n) := hS
  obtain ⟨c0, hc0⟩ := getElem?_of_lt' B 0 (by omega)
  have H0 : Hid (B[0]? = some c0) := hc0
  have hk0 := hB 0 c0 hc0
  rw [Nat.add_zero] at hk0
  have hdd := hdig c0 hc0
  have e45 : ((c0.toNat : Int) == 45) = false := by rw [beq_eq_false_iff_ne]; omega
  have hnb : ((n : Int) == 0) = false := by rw [beq_eq_false_iff_ne]; omega
  have hn1 : 1 ≤ n := by omega
  have hni : (0 : Int) < (n : Int) := by omega
  clear hc0 hB hS hn hd0
  obtain rfl : c0 = d0 := by
    have h := front_at hBM (by omega) H0.out
    rw [hMR] at h
    simp at h
    exact h.symm
  have hdd1 : 48 ≤ (c0.toNat : Int) := by omega
  have hdd2 : (c0.toNat : Int) ≤ 57 := by omega
  have HMR : Hid (M = [c0]) := hMR
  have HP : Hid (M.length = p) := hp
  have HE : Hid (E.length = e) := he
  have HRL : Hid (R.length = r) := hr
  have hnp1 : n ≤ p + 1 + q := by omega
  have hnp2 : p + 1 + q ≤ n := by omega
  have hn4 : n ≤ 4000000 := by
    cases neg with
    | false => have := (HS.out.no rfl).1; omega
    | true => have := (HS.out.yes rfl).1; omega
  have hp4 : p ≤ 4000000 := by omega
  clear hn4
  clear hmd hrd hed hXE hve hsg hp hq he hr hqe hnpq hBM hMR hdig hb1 hdd h2 h19
  subst hR0
  have hpl : (p : Int) ≤ 1 := by omega
  have hpp : 1 ≤ p := by omega
  have hr0 : r = 0 := by have := HRL.out; simp at this; omega
  subst hr0
  clear hp1
  cases neg with
  | false =>
    have hmn := (HS.out.no rfl).1.symm
    have hoo := (HS.out.no rfl).2
    have hcM := HS.out.mm
    subst hmn
    subst hoo
    obtain ⟨C, hC⟩ : ∃ C, C = cap := ⟨_, rfl⟩
    subst hC
    have hmb : ((n : Int) + 1 == 0) = false := by rw [beq_eq_false_iff_ne]; omega
    have hcz : ¬ C = 0 := by omega
    have hcl : (n : Int) ≤ (C : Int) := by omega
    have hml : (n : Int) < (n : Int) + 1 := by omega
    have hn63 : (n : Int) ≤ 4000000 := by omega
    clear hm4
    go_enter Tryd.func16, Tryd.ntmps16
    go_wp2_with fail
    clear hmb hml hcM HS hnb e45
    have HM : Hid (Body w g o1 M) := HB.out.front HBM.out
    have HX : Hid (Body w g (o1 + (p + 1)) X) := HB.out.back (D := M ++ [101]) (by rw [HBM.out]; simp) (by simp [HP.out])
    have hee : w.cell? ⟨g, o1 + p, none⟩ = some (.int .u8 101) := HB.out p 101 (by rw [HBM.out, List.getElem?_append_right (by rw [HP.out]; omega), HP.out]; simp)
    go_loop [7, 8] (fun e i => e = .int .i64 (-1) ∧ ∃ k : Nat, k ≤ p ∧ i = .int .i64 k) (fun _ i => p - (intOf i).toNat)
    case atStart => exact ⟨rfl, 0, Nat.zero_le _, rfl⟩
    case round =>
      obtain ⟨rfl, k, hk, rfl⟩ := hrel
      by_cases hlt : k < p
      · obtain ⟨c, hc⟩ := getElem?_of_lt' M k (by rw [HP.out]; exact hlt)
        have hcell := HM.out k c hc
        have hcd := HMD.out c (List.mem_of_getElem? hc)
        have hcb : ((c.toNat : Int) == 101) = false := by rw [beq_eq_false_iff_ne]; omega
        have hki : (k : Int) < (n : Int) := by omega
        clear hc hcd
        go_wp2_with fail
        go_round
        case rel => exact ⟨rfl, k + 1, by omega, by go_num⟩
        case measure => simp [intOf]; omega
      · have hkk : p = k := by omega
        subst hkk
        clear hlt hk
        have hki : (p : Int) < (n : Int) := by omega
        have hp0 : (0 : Int) ≤ (p : Int) := by omega
        have hpn : ¬ (p : Int) < 0 := by omega
        have hpC : (p : Int) ≤ (C : Int) := by omega
        have hp1n : (p : Int) + 1 ≤ (n : Int) := by omega
        have hCp : ¬ C = p + 1 := by omega
        have hqn : n - (p + 1) = q := by omega
        obtain ⟨cr, hcr⟩ : ∃ cr, C - (p + 1) = cr := ⟨_, rfl⟩
        have hcr1 : q + 1 ≤ cr := by omega
        have hcr2 : cr ≤ 9223372036854775807 := by omega
        have hpb : ((p : Int) == 0) = false := by rw [beq_eq_false_iff_ne]; omega
        have hpi : (0 : Int) < (p : Int) := by omega
        go_wp2_with fail
        refine (isd_yes _ _ (by omega) (by omega)).mono ?_
        rintro e w' ⟨rfl, hw⟩; subst w'
        rcases HSG.out with ⟨hsg, hsx⟩ | ⟨hsg, hsx⟩
        · subst hsx
          have HSGS : Hid (sg = 43) := hsg
          clear hsg
          go_wp2_with (first
            | (at_make; refine wpList_make_own _ rfl _ _ 22 rfl w.heap.size 5 i0 (.int .u8 0) 1 Tryd.underlying22 hi hz0 hz1 _ _ _ p rfl rfl rfl (by rw [hz2]; omega) (by unfold maxLen; omega) (Nat.le_refl _) ?_
               intro w1 hrow hgr
               have hb1 : Below w.heap.size w w1 := ⟨hgr.os, hgr.tape, hgr.output, hgr.size, fun k hk => hgr.block k hk (by simp)⟩
               have hk1 : w1.cell? ⟨g, o1, none⟩ = some (.int .u8 (c0.toNat : Int)) := (hb1.cell (p := ⟨g, o1, none⟩) (World.block_lt_of_cell? w _ hk0)).trans hk0
               have hs1 := hb1.size
               clear hgr)
            | (at_builtin; refine wpList_append_bs _ rfl _ _ 22 rfl w.heap.size 5 i0 Tryd.underlying22 hi hz0 hz1 hz2 _ _ _ _ rfl (hrow.alloc _) ⟨w1.heap.size, 0, none⟩ 1 1 [Value.int .u8 (c0.toNat : Int)] rfl rfl (cell_one_new _ _ _) (one_byte _) (by unfold maxLen; omega) (by omega) (by simp; omega) ?_
               intro a2 cap2 w2 hown2 hgr2
               have hb2 : Below w.heap.size (w1.alloc (.cells #[.int .u8 (c0.toNat : Int)] 5)) w2 := hgr2.below (by simp; omega) (fun k hk => (hrow.lt k (by rw [ownBlock_slice]; exact hk)).1)
               have HBW : Hid (Below w.heap.size w w2) := (hb1.trans ((Below.refl _ _).alloc hs1 _)).trans hb2
               have HK2 : Hid (w2.cell? ⟨g, o1, none⟩ = some (.int .u8 (c0.toNat : Int))) := (HBW.out.cell (p := ⟨g, o1, none⟩) (World.block_lt_of_cell? w _ hk0)).trans hk0
               have HR0 : Hid (RD w w2 c0 ([] : List UInt8) 0 a2 cap2) := ⟨by simpa [Lib.byteCells] using hown2, HBW.out⟩
               have hx0 : w2.cell? ⟨g, o1 + (p + 1), none⟩ = some (.int .u8 43) := by
                 have h := (HX.out.below HBW.out) 0 43 (by rw [HXE.out, HSGS.out]; rfl)
                 rwa [Nat.add_zero] at h
               clear hrow hgr2 hown2 hb1 hb2 hk1 hs1)
            | fail)
          obtain ⟨g3, ha3, _, _, _, hcs3⟩ := row_cells (bs := [c0]) HR0.out.full (by simp) (by omega)
          subst ha3
          have hcv := conv_at (g := g3) (o := 0) (C := cap2) (n := 0 + 1) (D := [c0]) (by simp) hcs3
          simp only [Nat.zero_add] at hcv
          clear hcs3
          go_loop [13, 14] (fun v i => ∃ k t : Nat, Hid (k = t + 1) ∧ k ≤ q ∧ t ≤ e ∧ i = .int .i64 k ∧ v = .int .u64 (valD (E.take t)) ∧ Hid (AllD E t)) (fun _ i => q - (intOf i).toNat)
          case atStart => exact ⟨1, 0, rfl, by omega, by omega, rfl, rfl, AllD.zero _⟩
          case round =>
            obtain ⟨k, t, HKT, hk, ht, rfl, rfl, HAD⟩ := hrel
            by_cases hlt : k < q
            · obtain ⟨c, hc⟩ := getElem?_of_lt' E t (by have := HKT.out; rw [HE.out]; omega)
              have hcell : w2.cell? ⟨g, o1 + (p + 1) + k, none⟩ = some (.int .u8 (c.toNat : Int)) := by
                have h := (HX.out.below HBW.out) (t + 1) c (by rw [HXE.out]; simpa using hc)
                rwa [← HKT.out] at h
              have hcd := HED.out c (List.mem_of_getElem? hc)
              have hcd1 : 48 ≤ (c.toNat : Int) := by omega
              have hcd2 : (c.toNat : Int) ≤ 57 := by omega
              have hki : (k : Int) < (q : Int) := by omega
              have HV : Hid (valD (E.take (t + 1)) = valD (E.take t) * 10 + ((c.toNat : Int) - 48)) := by rw [take_snoc _ _ _ hc]; exact valD_snoc _ _
              obtain ⟨v1, v2⟩ := valD_take_le18 (ds := E) (k := t) (by have := HKT.out; omega) (by have := HKT.out; rw [HE.out]; omega) HAD.out
              have HAN : Hid (AllD E (t + 1)) := HAD.out.next hc hcd.1 hcd.2
              clear hc hcd
              generalize valD (E.take t) = vt at *
              go_wp2_with fail
              refine (isd_yes _ _ hcd1 hcd2).mono ?_
              rintro e w' ⟨rfl, hw⟩; subst w'
              go_wp2_with fail
              go_round
              case rel => exact ⟨k + 1, t + 1, by have := HKT.out; show _ = _; omega, by omega, by have := HKT.out; omega, by go_num, by rw [HV.out], HAN⟩
              case measure => simp [intOf]; omega
            · have hte : e = t := by have := HKT.out; omega
              have hkq : q = k := by omega
              subst hte
              subst hkq
              have hEt : E.take e = E := by rw [← HE.out, List.take_length]
              rw [hEt, HVE.out]
              clear hEt hlt
              go_wp2_with fail
              go_quiet (fail)
              go_wp2_with fail
              (try simp only [Exit.inBlock, Exit.then])
              refine bodyPost_ret (results_tmp4 rfl _ _ _) rfl ?_
              exact ⟨rfl, below_drewN HBW.out _⟩
        · subst hsx
          have HSGS : Hid (sg = 45) := hsg
          clear hsg
          go_wp2_with (first
            | (at_make; refine wpList_make_own _ rfl _ _ 22 rfl w.heap.size 5 i0 (.int .u8 0) 1 Tryd.underlying22 hi hz0 hz1 _ _ _ p rfl rfl rfl (by rw [hz2]; omega) (by unfold maxLen; omega) (Nat.le_refl _) ?_
               intro w1 hrow hgr
               have hb1 : Below w.heap.size w w1 := ⟨hgr.os, hgr.tape, hgr.output, hgr.size, fun k hk => hgr.block k hk (by simp)⟩
               have hk1 : w1.cell? ⟨g, o1, none⟩ = some (.int .u8 (c0.toNat : Int)) := (hb1.cell (p := ⟨g, o1, none⟩) (World.block_lt_of_cell? w _ hk0)).trans hk0
               have hs1 := hb1.size
               clear hgr)
            | (at_builtin; refine wpList_append_bs _ rfl _ _ 22 rfl w.heap.size 5 i0 Tryd.underlying22 hi hz0 hz1 hz2 _ _ _ _ rfl (hrow.alloc _) ⟨w1.heap.size, 0, none⟩ 1 1 [Value.int .u8 (c0.toNat : Int)] rfl rfl (cell_one_new _ _ _) (one_byte _) (by unfold maxLen; omega) (by omega) (by simp; omega) ?_
               intro a2 cap2 w2 hown2 hgr2
               have hb2 : Below w.heap.size (w1.alloc (.cells #[.int .u8 (c0.toNat : Int)] 5)) w2 := hgr2.below (by simp; omega) (fun k hk => (hrow.lt k (by rw [ownBlock_slice]; exact hk)).1)
               have HBW : Hid (Below w.heap.size w w2) := (hb1.trans ((Below.refl _ _).alloc hs1 _)).trans hb2
               have HK2 : Hid (w2.cell? ⟨g, o1, none⟩ = some (.int .u8 (c0.toNat : Int))) := (HBW.out.cell (p := ⟨g, o1, none⟩) (World.block_lt_of_cell? w _ hk0)).trans hk0
               have HR0 : Hid (RD w w2 c0 ([] : List UInt8) 0 a2 cap2) := ⟨by simpa [Lib.byteCells] using hown2, HBW.out⟩
               have hx0 : w2.cell? ⟨g, o1 + (p + 1), none⟩ = some (.int .u8 45) := by
                 have h := (HX.out.below HBW.out) 0 45 (by rw [HXE.out, HSGS.out]; rfl)
                 rwa [Nat.add_zero] at h
               clear hrow hgr2 hown2 hb1 hb2 hk1 hs1)
            | fail)
          obtain ⟨g3, ha3, _, _, _, hcs3⟩ := row_cells (bs := [c0]) HR0.out.full (by simp) (by omega)
          subst ha3
          have hcv := conv_at (g := g3) (o := 0) (C := cap2) (n := 0 + 1) (D := [c0]) (by simp) hcs3
          simp only [Nat.zero_add] at hcv
          clear hcs3
          go_loop [13, 14] (fun v i => ∃ k t : Nat, Hid (k = t + 1) ∧ k ≤ q ∧ t ≤ e ∧ i = .int .i64 k ∧ v = .int .u64 (valD (E.take t)) ∧ Hid (AllD E t)) (fun _ i => q - (intOf i).toNat)
          case atStart => exact ⟨1, 0, rfl, by omega, by omega, rfl, rfl, AllD.zero _⟩
          case round =>
            obtain ⟨k, t, HKT, hk, ht, rfl, rfl, HAD⟩ := hrel
            by_cases hlt : k < q
            · obtain ⟨c, hc⟩ := getElem?_of_lt' E t (by have := HKT.out; rw [HE.out]; omega)
              have hcell : w2.cell? ⟨g, o1 + (p + 1) + k, none⟩ = some (.int .u8 (c.toNat : Int)) := by
                have h := (HX.out.below HBW.out) (t + 1) c (by rw [HXE.out]; simpa using hc)
                rwa [← HKT.out] at h
              have hcd := HED.out c (List.mem_of_getElem? hc)
              have hcd1 : 48 ≤ (c.toNat : Int) := by omega
              have hcd2 : (c.toNat : Int) ≤ 57 := by omega
              have hki : (k : Int) < (q : Int) := by omega
              have HV : Hid (valD (E.take (t + 1)) = valD (E.take t) * 10 + ((c.toNat : Int) - 48)) := by rw [take_snoc _ _ _ hc]; exact valD_snoc _ _
              obtain ⟨v1, v2⟩ := valD_take_le18 (ds := E) (k := t) (by have := HKT.out; omega) (by have := HKT.out; rw [HE.out]; omega) HAD.out
              have HAN : Hid (AllD E (t + 1)) := HAD.out.next hc hcd.1 hcd.2
              clear hc hcd
              generalize valD (E.take t) = vt at *
              go_wp2_with fail
              refine (isd_yes _ _ hcd1 hcd2).mono ?_
              rintro e w' ⟨rfl, hw⟩; subst w'
              go_wp2_with fail
              go_round
              case rel => exact ⟨k + 1, t + 1, by have := HKT.out; show _ = _; omega, by omega, by have := HKT.out; omega, by go_num, by rw [HV.out], HAN⟩
              case measure => simp [intOf]; omega
            · have hte : e = t := by have := HKT.out; omega
              have hkq : q = k := by omega
              subst hte
              subst hkq
              have hEt : E.take e = E := by rw [← HE.out, List.take_length]
              rw [hEt, HVE.out]
              clear hEt hlt
              go_wp2_with fail
              go_quiet (fail)
              go_wp2_with fail
              (try simp only [Exit.inBlock, Exit.then])
              refine bodyPost_ret (results_tmp4 rfl _ _ _) rfl ?_
              exact ⟨rfl, below_drewN HBW.out _⟩
  | true =>
    have hmn := (HS.out.yes rfl).1
    have hoo := (HS.out.yes rfl).2.1
    have hc45 := (HS.out.yes rfl).2.2
    have hcM := HS.out.mm
    subst hmn
    subst hoo
    have hmb : ((n : Int) + 1 + 1 == 0) = false := by rw [beq_eq_false_iff_ne]; omega
    have hcz0 : ¬ cap = 0 := by omega
    have hcz1 : ¬ cap = 1 := by omega
    have hcl0 : (n : Int) + 1 ≤ (cap : Int) := by omega
    have hml : (n : Int) + 1 < (n : Int) + 1 + 1 := by omega
    have hml0 : (0 : Int) < (n : Int) + 1 := by omega
    have hml1 : (1 : Int) ≤ (n : Int) + 1 := by omega
    have hn64 : (n : Int) ≤ 3999999 := by omega
    clear hm4
    go_enter Tryd.func16, Tryd.ntmps16
    go_wp2_with fail
    clear hmb hml hcM HS hnb e45 hc45 hml0 hml1 hcl0 hcz0 hcz1
    have hn63 : (n : Int) ≤ 4000000 := by omega
    clear hn64
    obtain ⟨C, hC⟩ : ∃ C, cap - 1 = C := ⟨_, rfl⟩
    have hc1' : n + 1 ≤ C := by omega
    have hc2' : C ≤ 9223372036854775807 := by omega
    rw [hC]
    clear hC hc1 hc2
    have hc1 := hc1'
    have hc2 := hc2'
    clear hc1' hc2'
    have hcz : ¬ C = 0 := by omega
    have hcl : (n : Int) ≤ (C : Int) := by omega
    obtain ⟨o1, ho1⟩ : ∃ o1, o + 1 = o1 := ⟨_, rfl⟩
    rw [ho1] at HB hk0 ⊢
    clear ho1
    have HM : Hid (Body w g o1 M) := HB.out.front HBM.out
    have HX : Hid (Body w g (o1 + (p + 1)) X) := HB.out.back (D := M ++ [101]) (by rw [HBM.out]; simp) (by simp [HP.out])
    have hee : w.cell? ⟨g, o1 + p, none⟩ = some (.int .u8 101) := HB.out p 101 (by rw [HBM.out, List.getElem?_append_right (by rw [HP.out]; omega), HP.out]; simp)
    go_loop [7, 8] (fun e i => e = .int .i64 (-1) ∧ ∃ k : Nat, k ≤ p ∧ i = .int .i64 k) (fun _ i => p - (intOf i).toNat)
    case atStart => exact ⟨rfl, 0, Nat.zero_le _, rfl⟩
    case round =>
      obtain ⟨rfl, k, hk, rfl⟩ := hrel
      by_cases hlt : k < p
      · obtain ⟨c, hc⟩ := getElem?_of_lt' M k (by rw [HP.out]; exact hlt)
        have hcell := HM.out k c hc
        have hcd := HMD.out c (List.mem_of_getElem? hc)
        have hcb : ((c.toNat : Int) == 101) = false := by rw [beq_eq_false_iff_ne]; omega
        have hki : (k : Int) < (n : Int) := by omega
        clear hc hcd
        go_wp2_with fail
        go_round
        case rel => exact ⟨rfl, k + 1, by omega, by go_num⟩
        case measure => simp [intOf]; omega
      · have hkk : p = k := by omega
        subst hkk
        clear hlt hk
        have hki : (p : Int) < (n : Int) := by omega
        have hp0 : (0 : Int) ≤ (p : Int) := by omega
        have hpn : ¬ (p : Int) < 0 := by omega
        have hpC : (p : Int) ≤ (C : Int) := by omega
        have hp1n : (p : Int) + 1 ≤ (n : Int) := by omega
        have hCp : ¬ C = p + 1 := by omega
        have hqn : n - (p + 1) = q := by omega
        obtain ⟨cr, hcr⟩ : ∃ cr, C - (p + 1) = cr := ⟨_, rfl⟩
        have hcr1 : q + 1 ≤ cr := by omega
        have hcr2 : cr ≤ 9223372036854775807 := by omega
        have hpb : ((p : Int) == 0) = false := by rw [beq_eq_false_iff_ne]; omega
        have hpi : (0 : Int) < (p : Int) := by omega
        go_wp2_with fail
        refine (isd_yes _ _ (by omega) (by omega)).mono ?_
        rintro e w' ⟨rfl, hw⟩; subst w'
        rcases HSG.out with ⟨hsg, hsx⟩ | ⟨hsg, hsx⟩
        · subst hsx
          have HSGS : Hid (sg = 43) := hsg
          clear hsg
          go_wp2_with (first
            | (at_make; refine wpList_make_own _ rfl _ _ 22 rfl w.heap.size 5 i0 (.int .u8 0) 1 Tryd.underlying22 hi hz0 hz1 _ _ _ p rfl rfl rfl (by rw [hz2]; omega) (by unfold maxLen; omega) (Nat.le_refl _) ?_
               intro w1 hrow hgr
               have hb1 : Below w.heap.size w w1 := ⟨hgr.os, hgr.tape, hgr.output, hgr.size, fun k hk => hgr.block k hk (by simp)⟩
               have hk1 : w1.cell? ⟨g, o1, none⟩ = some (.int .u8 (c0.toNat : Int)) := (hb1.cell (p := ⟨g, o1, none⟩) (World.block_lt_of_cell? w _ hk0)).trans hk0
               have hs1 := hb1.size
               clear hgr)
            | (at_builtin; refine wpList_append_bs _ rfl _ _ 22 rfl w.heap.size 5 i0 Tryd.underlying22 hi hz0 hz1 hz2 _ _ _ _ rfl (hrow.alloc _) ⟨w1.heap.size, 0, none⟩ 1 1 [Value.int .u8 (c0.toNat : Int)] rfl rfl (cell_one_new _ _ _) (one_byte _) (by unfold maxLen; omega) (by omega) (by simp; omega) ?_
               intro a2 cap2 w2 hown2 hgr2
               have hb2 : Below w.heap.size (w1.alloc (.cells #[.int .u8 (c0.toNat : Int)] 5)) w2 := hgr2.below (by simp; omega) (fun k hk => (hrow.lt k (by rw [ownBlock_slice]; exact hk)).1)
               have HBW : Hid (Below w.heap.size w w2) := (hb1.trans ((Below.refl _ _).alloc hs1 _)).trans hb2
               have HK2 : Hid (w2.cell? ⟨g, o1, none⟩ = some (.int .u8 (c0.toNat : Int))) := (HBW.out.cell (p := ⟨g, o1, none⟩) (World.block_lt_of_cell? w _ hk0)).trans hk0
               have HR0 : Hid (RD w w2 c0 ([] : List UInt8) 0 a2 cap2) := ⟨by simpa [Lib.byteCells] using hown2, HBW.out⟩
               have hx0 : w2.cell? ⟨g, o1 + (p + 1), none⟩ = some (.int .u8 43) := by
                 have h := (HX.out.below HBW.out) 0 43 (by rw [HXE.out, HSGS.out]; rfl)
                 rwa [Nat.add_zero] at h
               clear hrow hgr2 hown2 hb1 hb2 hk1 hs1)
            | fail)
          obtain ⟨g3, ha3, _, _, _, hcs3⟩ := row_cells (bs := [c0]) HR0.out.full (by simp) (by omega)
          subst ha3
          have hcv := conv_at (g := g3) (o := 0) (C := cap2) (n := 0 + 1) (D := [c0]) (by simp) hcs3
          simp only [Nat.zero_add] at hcv
          clear hcs3
          go_loop [13, 14] (fun v i => ∃ k t : Nat, Hid (k = t + 1) ∧ k ≤ q ∧ t ≤ e ∧ i = .int .i64 k ∧ v = .int .u64 (valD (E.take t)) ∧ Hid (AllD E t)) (fun _ i => q - (intOf i).toNat)
          case atStart => exact ⟨1, 0, rfl, by omega, by omega, rfl, rfl, AllD.zero _⟩
          case round =>
            obtain ⟨k, t, HKT, hk, ht, rfl, rfl, HAD⟩ := hrel
            by_cases hlt : k < q
            · obtain ⟨c, hc⟩ := getElem?_of_lt' E t (by have := HKT.out; rw [HE.out]; omega)
              have hcell : w2.cell? ⟨g, o1 + (p + 1) + k, none⟩ = some (.int .u8 (c.toNat : Int)) := by
                have h := (HX.out.below HBW.out) (t + 1) c (by rw [HXE.out]; simpa using hc)
                rwa [← HKT.out] at h
              have hcd := HED.out c (List.mem_of_getElem? hc)
              have hcd1 : 48 ≤ (c.toNat : Int) := by omega
              have hcd2 : (c.toNat : Int) ≤ 57 := by omega
              have hki : (k : Int) < (q : Int) := by omega
              have HV : Hid (valD (E.take (t + 1)) = valD (E.take t) * 10 + ((c.toNat : Int) - 48)) := by rw [take_snoc _ _ _ hc]; exact valD_snoc _ _
              obtain ⟨v1, v2⟩ := valD_take_le18 (ds := E) (k := t) (by have := HKT.out; omega) (by have := HKT.out; rw [HE.out]; omega) HAD.out
              have HAN : Hid (AllD E (t + 1)) := HAD.out.next hc hcd.1 hcd.2
              clear hc hcd
              generalize valD (E.take t) = vt at *
              go_wp2_with fail
              refine (isd_yes _ _ hcd1 hcd2).mono ?_
              rintro e w' ⟨rfl, hw⟩; subst w'
              go_wp2_with fail
              go_round
              case rel => exact ⟨k + 1, t + 1, by have := HKT.out; show _ = _; omega, by omega, by have := HKT.out; omega, by go_num, by rw [HV.out], HAN⟩
              case measure => simp [intOf]; omega
            · have hte : e = t := by have := HKT.out; omega
              have hkq : q = k := by omega
              subst hte
              subst hkq
              have hEt : E.take e = E := by rw [← HE.out, List.take_length]
              rw [hEt, HVE.out]
              clear hEt hlt
              go_wp2_with fail
              go_quiet (fail)
              go_wp2_with fail
              (try simp only [Exit.inBlock, Exit.then])
              refine bodyPost_ret (results_tmp4 rfl _ _ _) rfl ?_
              exact ⟨rfl, below_drewN HBW.out _⟩
        · subst hsx
          have HSGS : Hid (sg = 45) := hsg
          clear hsg
          go_wp2_with (first
            | (at_make; refine wpList_make_own _ rfl _ _ 22 rfl w.heap.size 5 i0 (.int .u8 0) 1 Tryd.underlying22 hi hz0 hz1 _ _ _ p rfl rfl rfl (by rw [hz2]; omega) (by unfold maxLen; omega) (Nat.le_refl _) ?_
               intro w1 hrow hgr
               have hb1 : Below w.heap.size w w1 := ⟨hgr.os, hgr.tape, hgr.output, hgr.size, fun k hk => hgr.block k hk (by simp)⟩
               have hk1 : w1.cell? ⟨g, o1, none⟩ = some (.int .u8 (c0.toNat : Int)) := (hb1.cell (p := ⟨g, o1, none⟩) (World.block_lt_of_cell? w _ hk0)).trans hk0
               have hs1 := hb1.size
               clear hgr)
            | (at_builtin; refine wpList_append_bs _ rfl _ _ 22 rfl w.heap.size 5 i0 Tryd.underlying22 hi hz0 hz1 hz2 _ _ _ _ rfl (hrow.alloc _) ⟨w1.heap.size, 0, none⟩ 1 1 [Value.int .u8 (c0.toNat : Int)] rfl rfl (cell_one_new _ _ _) (one_byte _) (by unfold maxLen; omega) (by omega) (by simp; omega) ?_
               intro a2 cap2 w2 hown2 hgr2
               have hb2 : Below w.heap.size (w1.alloc (.cells #[.int .u8 (c0.toNat : Int)] 5)) w2 := hgr2.below (by simp; omega) (fun k hk => (hrow.lt k (by rw [ownBlock_slice]; exact hk)).1)
               have HBW : Hid (Below w.heap.size w w2) := (hb1.trans ((Below.refl _ _).alloc hs1 _)).trans hb2
               have HK2 : Hid (w2.cell? ⟨g, o1, none⟩ = some (.int .u8 (c0.toNat : Int))) := (HBW.out.cell (p := ⟨g, o1, none⟩) (World.block_lt_of_cell? w _ hk0)).trans hk0
               have HR0 : Hid (RD w w2 c0 ([] : List UInt8) 0 a2 cap2) := ⟨by simpa [Lib.byteCells] using hown2, HBW.out⟩
               have hx0 : w2.cell? ⟨g, o1 + (p + 1), none⟩ = some (.int .u8 45) := by
                 have h := (HX.out.below HBW.out) 0 45 (by rw [HXE.out, HSGS.out]; rfl)
                 rwa [Nat.add_zero] at h
               clear hrow hgr2 hown2 hb1 hb2 hk1 hs1)
            | fail)
          obtain ⟨g3, ha3, _, _, _, hcs3⟩ := row_cells (bs := [c0]) HR0.out.full (by simp) (by omega)
          subst ha3
          have hcv := conv_at (g := g3) (o := 0) (C := cap2) (n := 0 + 1) (D := [c0]) (by simp) hcs3
          simp only [Nat.zero_add] at hcv
          clear hcs3
          go_loop [13, 14] (fun v i => ∃ k t : Nat, Hid (k = t + 1) ∧ k ≤ q ∧ t ≤ e ∧ i = .int .i64 k ∧ v = .int .u64 (valD (E.take t)) ∧ Hid (AllD E t)) (fun _ i => q - (intOf i).toNat)
          case atStart => exact ⟨1, 0, rfl, by omega, by omega, rfl, rfl, AllD.zero _⟩
          case round =>
            obtain ⟨k, t, HKT, hk, ht, rfl, rfl, HAD⟩ := hrel
            by_cases hlt : k < q
            · obtain ⟨c, hc⟩ := getElem?_of_lt' E t (by have := HKT.out; rw [HE.out]; omega)
              have hcell : w2.cell? ⟨g, o1 + (p + 1) + k, none⟩ = some (.int .u8 (c.toNat : Int)) := by
                have h := (HX.out.below HBW.out) (t + 1) c (by rw [HXE.out]; simpa using hc)
                rwa [← HKT.out] at h
              have hcd := HED.out c (List.mem_of_getElem? hc)
              have hcd1 : 48 ≤ (c.toNat : Int) := by omega
              have hcd2 : (c.toNat : Int) ≤ 57 := by omega
              have hki : (k : Int) < (q : Int) := by omega
              have HV : Hid (valD (E.take (t + 1)) = valD (E.take t) * 10 + ((c.toNat : Int) - 48)) := by rw [take_snoc _ _ _ hc]; exact valD_snoc _ _
              obtain ⟨v1, v2⟩ := valD_take_le18 (ds := E) (k := t) (by have := HKT.out; omega) (by have := HKT.out; rw [HE.out]; omega) HAD.out
              have HAN : Hid (AllD E (t + 1)) := HAD.out.next hc hcd.1 hcd.2
              clear hc hcd
              generalize valD (E.take t) = vt at *
              go_wp2_with fail
              refine (isd_yes _ _ hcd1 hcd2).mono ?_
              rintro e w' ⟨rfl, hw⟩; subst w'
              go_wp2_with fail
              go_round
              case rel => exact ⟨k + 1, t + 1, by have := HKT.out; show _ = _; omega, by omega, by have := HKT.out; omega, by go_num, by rw [HV.out], HAN⟩
              case measure => simp [intOf]; omega
            · have hte : e = t := by have := HKT.out; omega
              have hkq : q = k := by omega
              subst hte
              subst hkq
              have hEt : E.take e = E := by rw [← HE.out, List.take_length]
              rw [hEt, HVE.out]
              clear hEt hlt
              go_wp2_with fail
              go_quiet (fail)
              go_wp2_with fail
              (try simp only [Exit.inBlock, Exit.then])
              refine bodyPost_ret (results_tmp4 rfl _ _ _) rfl ?_
              exact ⟨rfl, below_drewN HBW.out _⟩

set_option maxRecDepth 100000 in
set_option maxHeartbeats 4000000 in
theorem dec_expr (neg : Bool) (g o m o1 n cap : Nat) (B : List UInt8) (M X R E : List UInt8) (d0 sg : UInt8) (x v : Int) (w : World) (hS : Start w neg g o m o1 n) (hn : n = B.length) (hm4 : m ≤ 4000000) (hc1 : m + 1 ≤ cap) (hc2 : cap ≤ 9223372036854775807) (hB : Body w g o1 B)
    (hmd : ∀ c ∈ M, ¬ c.toNat = 101) (hd0 : 48 ≤ d0.toNat ∧ d0.toNat ≤ 57) (hrd : ∀ c ∈ R, 48 ≤ c.toNat ∧ c.toNat ≤ 57) (hed : ∀ c ∈ E, 48 ≤ c.toNat ∧ c.toNat ≤ 57) (hBM : B = M ++ 101 :: X) (hXE : X = sg :: E) (hve : valD E = v) (hv1 : 0 ≤ v) (hv2 : v ≤ 9223372036854775807) (h2 : 2 ≤ E.length) (h19 : E.length ≤ 19)
    (hsg : (sg = 43 ∧ x = v) ∨ (sg = 45 ∧ x = -v)) (hMR : M = d0 :: 46 :: R) (hR0 : R ≠ []) :
    Calls Tryd.prog 16 #[.slice (some ⟨g, o, none⟩) (m + 1) cap] w fun e w' => Decoded neg (d0 :: R) x e ∧ Below w.heap.size w w' := by
  obtain ⟨i0, hi, hz0, hz1, hz2⟩ := info_parts info5
  have HMD : Hid (∀ c ∈ M, ¬ c.toNat = 101) := hmd
  have HRD : Hid (∀ c ∈ R, 48 ≤ c.toNat ∧ c.toNat ≤ 57) := hrd
  have HED : Hid (∀ c ∈ E, 48 ≤ c.toNat ∧ c.toNat ≤ 57) := hed
  have HXE : Hid (X = sg :: E) := hXE
  have HVE : Hid (valD E = v) := hve
  have HSG : Hid ((sg = 43 ∧ x = v) ∨ (sg = 45 ∧ x = -v)) := hsg
  obtain ⟨p, hp⟩ : ∃ p, M.length = p := ⟨_, rfl⟩
  obtain ⟨q, hq⟩ : ∃ q, X.length = q := ⟨_, rfl⟩
  obtain ⟨e, he⟩ : ∃ e, E.length = e := ⟨_, rfl⟩
  obtain ⟨r, hr⟩ : ∃ r, R.length = r := ⟨_, rfl⟩
  have hqe : q = e + 1 := by rw [← hq, hXE, ← he]; simp
  have hqe1 : q ≤ e + 1 := by omega
  have hqe2 : e + 1 ≤ q := by omega
  have hq3 : 3 ≤ (q : Int) := by omega
  have hq20 : (q : Int) ≤ 20 := by omega
  have hqi : (0 : Int) < (q : Int) := by omega
  have hnpq : n = p + 1 + q := by rw [hn, hBM]; simp; omega
  have hpr : p = r + 2 := by rw [← hp, hMR, ← hr]; rfl
  have hr1 : 1 ≤ r := by rw [← hr]; exact List.length_pos_iff.2 hR0
  have HBM : Hid (B = M ++ 101 :: X) := hBM
  have hb1 : 1 ≤ B.length := by omega
  have hdig : ∀ c, B[0]? = some c → 48 ≤ c.toNat ∧ c.toNat ≤ 57 := fun c hc => by
    have h := front_at hBM (by omega) hc
    rw [hMR] at h
    simp at h
    subst h
    exact hd0
  have HB : Hid (Body w g o1 B) := hB
  have HN : Hid (n = B.length) := hn
  have HS : Hid (Start w neg g o m o1 n) := hS
  obtain ⟨c0, hc0⟩ := getElem?_of_lt' B 0 (by omega)
  have H0 : Hid (B[0]? = some c0) := hc0
  have hk0 := hB 0 c0 hc0
  rw [Nat.add_zero] at hk0
  have hdd := hdig c0 hc0
  have e45 : ((c0.toNat : Int) == 45) = false := by rw [beq_eq_false_iff_ne]; omega
  have hnb : ((n : Int) == 0) = false := by rw [beq_eq_false_iff_ne]; omega
  have hn1 : 1 ≤ n := by omega
  have hni : (0 : Int) < (n : Int) := by omega
  clear hc0 hB hS hn hd0
  obtain rfl : c0 = d0 := by
    have h := front_at hBM (by omega) H0.out
    rw [hMR] at h
    simp at h
    exact h.symm
  have hdd1 : 48 ≤ (c0.toNat : Int) := by omega
  have hdd2 : (c0.toNat : Int) ≤ 57 := by omega
  have HMR : Hid (M = c0 :: 46 :: R) := hMR
  have HP : Hid (M.length = p) := hp
  have HE : Hid (E.length = e) := he
  have HRL : Hid (R.length = r) := hr
  have hnp1 : n ≤ p + 1 + q := by omega
  have hnp2 : p + 1 + q ≤ n := by omega
  have hn4 : n ≤ 4000000 := by
    cases neg with
    | false => have := (HS.out.no rfl).1; omega
    | true => have := (HS.out.yes rfl).1; omega
  have hp4 : p ≤ 4000000 := by omega
  clear hn4
  clear hmd hrd hed hXE hve hsg hp hq he hr hqe hnpq hBM hMR hdig hb1 hdd h2 h19
  have hpr1 : p ≤ r + 2 := by omega
  have hpr2 : r + 2 ≤ p := by omega
  have hp3 : 3 ≤ (p : Int) := by omega
  have hp1i : (1 : Int) < (p : Int) := by omega
  have hpp : 1 ≤ p := by omega
  clear hpr hR0
  cases neg with
  | false =>
    have hmn := (HS.out.no rfl).1.symm
    have hoo := (HS.out.no rfl).2
    have hcM := HS.out.mm
    subst hmn
    subst hoo
    obtain ⟨C, hC⟩ : ∃ C, C = cap := ⟨_, rfl⟩
    subst hC
    have hmb : ((n : Int) + 1 == 0) = false := by rw [beq_eq_false_iff_ne]; omega
    have hcz : ¬ C = 0 := by omega
    have hcl : (n : Int) ≤ (C : Int) := by omega
    have hml : (n : Int) < (n : Int) + 1 := by omega
    have hn63 : (n : Int) ≤ 4000000 := by omega
    clear hm4
    go_enter Tryd.func16, Tryd.ntmps16
    go_wp2_with fail
    clear hmb hml hcM HS hnb e45
    have HM : Hid (Body w g o1 M) := HB.out.front HBM.out
    have HX : Hid (Body w g (o1 + (p + 1)) X) := HB.out.back (D := M ++ [101]) (by rw [HBM.out]; simp) (by simp [HP.out])
    have hee : w.cell? ⟨g, o1 + p, none⟩ = some (.int .u8 101) := HB.out p 101 (by rw [HBM.out, List.getElem?_append_right (by rw [HP.out]; omega), HP.out]; simp)
    go_loop [7, 8] (fun e i => e = .int .i64 (-1) ∧ ∃ k : Nat, k ≤ p ∧ i = .int .i64 k) (fun _ i => p - (intOf i).toNat)
    case atStart => exact ⟨rfl, 0, Nat.zero_le _, rfl⟩
    case round =>
      obtain ⟨rfl, k, hk, rfl⟩ := hrel
      by_cases hlt : k < p
      · obtain ⟨c, hc⟩ := getElem?_of_lt' M k (by rw [HP.out]; exact hlt)
        have hcell := HM.out k c hc
        have hcd := HMD.out c (List.mem_of_getElem? hc)
        have hcb : ((c.toNat : Int) == 101) = false := by rw [beq_eq_false_iff_ne]; omega
        have hki : (k : Int) < (n : Int) := by omega
        clear hc hcd
        go_wp2_with fail
        go_round
        case rel => exact ⟨rfl, k + 1, by omega, by go_num⟩
        case measure => simp [intOf]; omega
      · have hkk : p = k := by omega
        subst hkk
        clear hlt hk
        have hki : (p : Int) < (n : Int) := by omega
        have hp0 : (0 : Int) ≤ (p : Int) := by omega
        have hpn : ¬ (p : Int) < 0 := by omega
        have hpC : (p : Int) ≤ (C : Int) := by omega
        have hp1n : (p : Int) + 1 ≤ (n : Int) := by omega
        have hCp : ¬ C = p + 1 := by omega
        have hqn : n - (p + 1) = q := by omega
        obtain ⟨cr, hcr⟩ : ∃ cr, C - (p + 1) = cr := ⟨_, rfl⟩
        have hcr1 : q + 1 ≤ cr := by omega
        have hcr2 : cr ≤ 9223372036854775807 := by omega
        have hpb : ((p : Int) == 0) = false := by rw [beq_eq_false_iff_ne]; omega
        have hpi : (0 : Int) < (p : Int) := by omega
        go_wp2_with fail
        refine (isd_yes _ _ (by omega) (by omega)).mono ?_
        rintro e w' ⟨rfl, hw⟩; subst w'
        rcases HSG.out with ⟨hsg, hsx⟩ | ⟨hsg, hsx⟩
        · subst hsx
          have HSGS : Hid (sg = 43) := hsg
          clear hsg
          go_wp2_with (first
            | (at_make; refine wpList_make_own _ rfl _ _ 22 rfl w.heap.size 5 i0 (.int .u8 0) 1 Tryd.underlying22 hi hz0 hz1 _ _ _ p rfl rfl rfl (by rw [hz2]; omega) (by unfold maxLen; omega) (Nat.le_refl _) ?_
               intro w1 hrow hgr
               have hb1 : Below w.heap.size w w1 := ⟨hgr.os, hgr.tape, hgr.output, hgr.size, fun k hk => hgr.block k hk (by simp)⟩
               have hk1 : w1.cell? ⟨g, o1, none⟩ = some (.int .u8 (c0.toNat : Int)) := (hb1.cell (p := ⟨g, o1, none⟩) (World.block_lt_of_cell? w _ hk0)).trans hk0
               have hs1 := hb1.size
               clear hgr)
            | (at_builtin; refine wpList_append_bs _ rfl _ _ 22 rfl w.heap.size 5 i0 Tryd.underlying22 hi hz0 hz1 hz2 _ _ _ _ rfl (hrow.alloc _) ⟨w1.heap.size, 0, none⟩ 1 1 [Value.int .u8 (c0.toNat : Int)] rfl rfl (cell_one_new _ _ _) (one_byte _) (by unfold maxLen; omega) (by omega) (by simp; omega) ?_
               intro a2 cap2 w2 hown2 hgr2
               have hb2 : Below w.heap.size (w1.alloc (.cells #[.int .u8 (c0.toNat : Int)] 5)) w2 := hgr2.below (by simp; omega) (fun k hk => (hrow.lt k (by rw [ownBlock_slice]; exact hk)).1)
               have HBW : Hid (Below w.heap.size w w2) := (hb1.trans ((Below.refl _ _).alloc hs1 _)).trans hb2
               have HK2 : Hid (w2.cell? ⟨g, o1, none⟩ = some (.int .u8 (c0.toNat : Int))) := (HBW.out.cell (p := ⟨g, o1, none⟩) (World.block_lt_of_cell? w _ hk0)).trans hk0
               have HR0 : Hid (RD w w2 c0 R 0 a2 cap2) := ⟨by simpa [Lib.byteCells] using hown2, HBW.out⟩
               have hm1 : w2.cell? ⟨g, o1 + 1, none⟩ = some (.int .u8 46) := (HM.out.below HBW.out) 1 46 (by rw [HMR.out]; rfl)
               clear hrow hgr2 hown2 hb1 hb2 hk1 hs1)
            | fail)
          go_loopw [11, 12] (fun v i wr => ∃ k t : Nat, Hid (k = t + 2) ∧ k ≤ p ∧ t ≤ r ∧ i = .int .i64 k ∧ ∃ a cap, v = .slice a (t + 1) cap ∧ Hid (RD w wr c0 R t a cap)) (fun _ i _ => p - (intOf i).toNat)
          case atStart => exact ⟨2, 0, rfl, by omega, by omega, rfl, a2, cap2, rfl, HR0⟩
          case round =>
            clear hm1 HK2 HBW HR0
            obtain ⟨k, t, HKT, hk, ht, rfl, a, capa, rfl, HR⟩ := hrel
            by_cases hlt : k < p
            · obtain ⟨c, hc⟩ := getElem?_of_lt' R t (by have := HKT.out; rw [HRL.out]; omega)
              have hcell : wr.cell? ⟨g, o1 + k, none⟩ = some (.int .u8 (c.toNat : Int)) := by
                have h := (HM.out.below HR.out.below) (t + 2) c (by rw [HMR.out]; simpa using hc)
                rwa [← HKT.out] at h
              have hcd := HRD.out c (List.mem_of_getElem? hc)
              have hcd1 : 48 ≤ (c.toNat : Int) := by omega
              have hcd2 : (c.toNat : Int) ≤ 57 := by omega
              have hki : (k : Int) < (p : Int) := by omega
              have HCR : Hid (R.take (t + 1) = R.take t ++ [c]) := take_snoc _ _ _ hc
              clear hc hcd
              have hown := HR.out.own
              have hsr := HR.out.below.size
              have ht4 : t ≤ 4000000 := by omega
              go_wp2_with fail
              refine (isd_yes _ _ hcd1 hcd2).mono ?_
              rintro e w' ⟨rfl, hw⟩; subst w'
              go_wp2_with (first
                | (at_builtin; refine wpList_append_bs _ rfl _ _ 22 rfl w.heap.size 5 i0 Tryd.underlying22 hi hz0 hz1 hz2 _ _ _ _ rfl (hown.alloc _) ⟨wr.heap.size, 0, none⟩ 1 1 [Value.int .u8 (c.toNat : Int)] rfl rfl (cell_one_new _ _ _) (one_byte _) (by unfold maxLen; omega) (by omega) (by simp; omega) ?_
                   intro a5 cap5 w5 hown5 hgr5
                   have hb5 : Below w.heap.size (wr.alloc (.cells #[.int .u8 (c.toNat : Int)] 5)) w5 := hgr5.below (by simp; omega) (fun k hk => (hown.lt k (by rw [ownBlock_slice]; exact hk)).1)
                   have HR5 : Hid (RD w w5 c0 R (t + 1) a5 cap5) := ⟨by rw [HCR.out, show Lib.byteCells (c0 :: (R.take t ++ [c])) = Lib.byteCells (c0 :: R.take t) ++ [Value.int .u8 (c.toNat : Int)] by simp [Lib.byteCells]]; exact hown5, (HR.out.below.trans ((Below.refl _ _).alloc hsr _)).trans hb5⟩
                   clear hown5 hgr5 hb5))
              go_roundw
              case rel => exact ⟨k + 1, t + 1, by have := HKT.out; show _ = _; omega, by omega, by have := HKT.out; omega, by go_num, a5, cap5, rfl, HR5⟩
              case measure => simp [intOf]; omega
            · have hrt : r = t := by have := HKT.out; omega
              have hkp : p = k := by omega
              subst hrt
              subst hkp
              clear hlt hk ht
              have HBW : Hid (Below w.heap.size w wr) := HR.out.below
              obtain ⟨g3, ha3, _, _, _, hcs3⟩ := row_cells (bs := c0 :: R) (HR.out.full (by rw [← HRL.out, List.take_length])) (by simp [HRL.out]) (by omega)
              subst ha3
              have hcv := conv_at (g := g3) (o := 0) (C := capa) (n := r + 1) (D := c0 :: R) (by simp [HRL.out]) hcs3
              clear hcs3
              have hx0 : wr.cell? ⟨g, o1 + (p + 1), none⟩ = some (.int .u8 43) := by
                have h := (HX.out.below HBW.out) 0 43 (by rw [HXE.out, HSGS.out]; rfl)
                rwa [Nat.add_zero] at h
              go_wp2_with fail
              go_loop [13, 14] (fun v i => ∃ k t : Nat, Hid (k = t + 1) ∧ k ≤ q ∧ t ≤ e ∧ i = .int .i64 k ∧ v = .int .u64 (valD (E.take t)) ∧ Hid (AllD E t)) (fun _ i => q - (intOf i).toNat)
              case atStart => exact ⟨1, 0, rfl, by omega, by omega, rfl, rfl, AllD.zero _⟩
              case round =>
                obtain ⟨k, t, HKT, hk, ht, rfl, rfl, HAD⟩ := hrel
                by_cases hlt : k < q
                · obtain ⟨c, hc⟩ := getElem?_of_lt' E t (by have := HKT.out; rw [HE.out]; omega)
                  have hcell : wr.cell? ⟨g, o1 + (p + 1) + k, none⟩ = some (.int .u8 (c.toNat : Int)) := by
                    have h := (HX.out.below HBW.out) (t + 1) c (by rw [HXE.out]; simpa using hc)
                    rwa [← HKT.out] at h
                  have hcd := HED.out c (List.mem_of_getElem? hc)
                  have hcd1 : 48 ≤ (c.toNat : Int) := by omega
                  have hcd2 : (c.toNat : Int) ≤ 57 := by omega
                  have hki : (k : Int) < (q : Int) := by omega
                  have HV : Hid (valD (E.take (t + 1)) = valD (E.take t) * 10 + ((c.toNat : Int) - 48)) := by rw [take_snoc _ _ _ hc]; exact valD_snoc _ _
                  obtain ⟨v1, v2⟩ := valD_take_le18 (ds := E) (k := t) (by have := HKT.out; omega) (by have := HKT.out; rw [HE.out]; omega) HAD.out
                  have HAN : Hid (AllD E (t + 1)) := HAD.out.next hc hcd.1 hcd.2
                  clear hc hcd
                  generalize valD (E.take t) = vt at *
                  go_wp2_with fail
                  refine (isd_yes _ _ hcd1 hcd2).mono ?_
                  rintro e w' ⟨rfl, hw⟩; subst w'
                  go_wp2_with fail
                  go_round
                  case rel => exact ⟨k + 1, t + 1, by have := HKT.out; show _ = _; omega, by omega, by have := HKT.out; omega, by go_num, by rw [HV.out], HAN⟩
                  case measure => simp [intOf]; omega
                · have hte : e = t := by have := HKT.out; omega
                  have hkq : q = k := by omega
                  subst hte
                  subst hkq
                  have hEt : E.take e = E := by rw [← HE.out, List.take_length]
                  rw [hEt, HVE.out]
                  clear hEt hlt
                  go_wp2_with fail
                  go_quiet (fail)
                  go_wp2_with fail
                  (try simp only [Exit.inBlock, Exit.then])
                  refine bodyPost_ret (results_tmp4 rfl _ _ _) rfl ?_
                  exact ⟨rfl, below_drewN HBW.out _⟩
        · subst hsx
          have HSGS : Hid (sg = 45) := hsg
          clear hsg
          go_wp2_with (first
            | (at_make; refine wpList_make_own _ rfl _ _ 22 rfl w.heap.size 5 i0 (.int .u8 0) 1 Tryd.underlying22 hi hz0 hz1 _ _ _ p rfl rfl rfl (by rw [hz2]; omega) (by unfold maxLen; omega) (Nat.le_refl _) ?_
               intro w1 hrow hgr
               have hb1 : Below w.heap.size w w1 := ⟨hgr.os, hgr.tape, hgr.output, hgr.size, fun k hk => hgr.block k hk (by simp)⟩
               have hk1 : w1.cell? ⟨g, o1, none⟩ = some (.int .u8 (c0.toNat : Int)) := (hb1.cell (p := ⟨g, o1, none⟩) (World.block_lt_of_cell? w _ hk0)).trans hk0
               have hs1 := hb1.size
               clear hgr)
            | (at_builtin; refine wpList_append_bs _ rfl _ _ 22 rfl w.heap.size 5 i0 Tryd.underlying22 hi hz0 hz1 hz2 _ _ _ _ rfl (hrow.alloc _) ⟨w1.heap.size, 0, none⟩ 1 1 [Value.int .u8 (c0.toNat : Int)] rfl rfl (cell_one_new _ _ _) (one_byte _) (by unfold maxLen; omega) (by omega) (by simp; omega) ?_
               intro a2 cap2 w2 hown2 hgr2
               have hb2 : Below w.heap.size (w1.alloc (.cells #[.int .u8 (c0.toNat : Int)] 5)) w2 := hgr2.below (by simp; omega) (fun k hk => (hrow.lt k (by rw [ownBlock_slice]; exact hk)).1)
               have HBW : Hid (Below w.heap.size w w2) := (hb1.trans ((Below.refl _ _).alloc hs1 _)).trans hb2
               have HK2 : Hid (w2.cell? ⟨g, o1, none⟩ = some (.int .u8 (c0.toNat : Int))) := (HBW.out.cell (p := ⟨g, o1, none⟩) (World.block_lt_of_cell? w _ hk0)).trans hk0
               have HR0 : Hid (RD w w2 c0 R 0 a2 cap2) := ⟨by simpa [Lib.byteCells] using hown2, HBW.out⟩
               have hm1 : w2.cell? ⟨g, o1 + 1, none⟩ = some (.int .u8 46) := (HM.out.below HBW.out) 1 46 (by rw [HMR.out]; rfl)
               clear hrow hgr2 hown2 hb1 hb2 hk1 hs1)
            | fail)
          go_loopw [11, 12] (fun v i wr => ∃ k t : Nat, Hid (k = t + 2) ∧ k ≤ p ∧ t ≤ r ∧ i = .int .i64 k ∧ ∃ a cap, v = .slice a (t + 1) cap ∧ Hid (RD w wr c0 R t a cap)) (fun _ i _ => p - (intOf i).toNat)
          case atStart => exact ⟨2, 0, rfl, by omega, by omega, rfl, a2, cap2, rfl, HR0⟩
          case round =>
            clear hm1 HK2 HBW HR0
            obtain ⟨k, t, HKT, hk, ht, rfl, a, capa, rfl, HR⟩ := hrel
            by_cases hlt : k < p
            · obtain ⟨c, hc⟩ := getElem?_of_lt' R t (by have := HKT.out; rw [HRL.out]; omega)
              have hcell : wr.cell? ⟨g, o1 + k, none⟩ = some (.int .u8 (c.toNat : Int)) := by
                have h := (HM.out.below HR.out.below) (t + 2) c (by rw [HMR.out]; simpa using hc)
                rwa [← HKT.out] at h
              have hcd := HRD.out c (List.mem_of_getElem? hc)
              have hcd1 : 48 ≤ (c.toNat : Int) := by omega
              have hcd2 : (c.toNat : Int) ≤ 57 := by omega
              have hki : (k : Int) < (p : Int) := by omega
              have HCR : Hid (R.take (t + 1) = R.take t ++ [c]) := take_snoc _ _ _ hc
              clear hc hcd
              have hown := HR.out.own
              have hsr := HR.out.below.size
              have ht4 : t ≤ 4000000 := by omega
              go_wp2_with fail
              refine (isd_yes _ _ hcd1 hcd2).mono ?_
              rintro e w' ⟨rfl, hw⟩; subst w'
              go_wp2_with (first
                | (at_builtin; refine wpList_append_bs _ rfl _ _ 22 rfl w.heap.size 5 i0 Tryd.underlying22 hi hz0 hz1 hz2 _ _ _ _ rfl (hown.alloc _) ⟨wr.heap.size, 0, none⟩ 1 1 [Value.int .u8 (c.toNat : Int)] rfl rfl (cell_one_new _ _ _) (one_byte _) (by unfold maxLen; omega) (by omega) (by simp; omega) ?_
                   intro a5 cap5 w5 hown5 hgr5
                   have hb5 : Below w.heap.size (wr.alloc (.cells #[.int .u8 (c.toNat : Int)] 5)) w5 := hgr5.below (by simp; omega) (fun k hk => (hown.lt k (by rw [ownBlock_slice]; exact hk)).1)
                   have HR5 : Hid (RD w w5 c0 R (t + 1) a5 cap5) := ⟨by rw [HCR.out, show Lib.byteCells (c0 :: (R.take t ++ [c])) = Lib.byteCells (c0 :: R.take t) ++ [Value.int .u8 (c.toNat : Int)] by simp [Lib.byteCells]]; exact hown5, (HR.out.below.trans ((Below.refl _ _).alloc hsr _)).trans hb5⟩
                   clear hown5 hgr5 hb5))
              go_roundw
              case rel => exact ⟨k + 1, t + 1, by have := HKT.out; show _ = _; omega, by omega, by have := HKT.out; omega, by go_num, a5, cap5, rfl, HR5⟩
              case measure => simp [intOf]; omega
            · have hrt : r = t := by have := HKT.out; omega
              have hkp : p = k := by omega
              subst hrt
              subst hkp
              clear hlt hk ht
              have HBW : Hid (Below w.heap.size w wr) := HR.out.below
              obtain ⟨g3, ha3, _, _, _, hcs3⟩ := row_cells (bs := c0 :: R) (HR.out.full (by rw [← HRL.out, List.take_length])) (by simp [HRL.out]) (by omega)
              subst ha3
              have hcv := conv_at (g := g3) (o := 0) (C := capa) (n := r + 1) (D := c0 :: R) (by simp [HRL.out]) hcs3
              clear hcs3
              have hx0 : wr.cell? ⟨g, o1 + (p + 1), none⟩ = some (.int .u8 45) := by
                have h := (HX.out.below HBW.out) 0 45 (by rw [HXE.out, HSGS.out]; rfl)
                rwa [Nat.add_zero] at h
              go_wp2_with fail
              go_loop [13, 14] (fun v i => ∃ k t : Nat, Hid (k = t + 1) ∧ k ≤ q ∧ t ≤ e ∧ i = .int .i64 k ∧ v = .int .u64 (valD (E.take t)) ∧ Hid (AllD E t)) (fun _ i => q - (intOf i).toNat)
              case atStart => exact ⟨1, 0, rfl, by omega, by omega, rfl, rfl, AllD.zero _⟩
              case round =>
                obtain ⟨k, t, HKT, hk, ht, rfl, rfl, HAD⟩ := hrel
                by_cases hlt : k < q
                · obtain ⟨c, hc⟩ := getElem?_of_lt' E t (by have := HKT.out; rw [HE.out]; omega)
                  have hcell : wr.cell? ⟨g, o1 + (p + 1) + k, none⟩ = some (.int .u8 (c.toNat : Int)) := by
                    have h := (HX.out.below HBW.out) (t + 1) c (by rw [HXE.out]; simpa using hc)
                    rwa [← HKT.out] at h
                  have hcd := HED.out c (List.mem_of_getElem? hc)
                  have hcd1 : 48 ≤ (c.toNat : Int) := by omega
                  have hcd2 : (c.toNat : Int) ≤ 57 := by omega
                  have hki : (k : Int) < (q : Int) := by omega
                  have HV : Hid (valD (E.take (t + 1)) = valD (E.take t) * 10 + ((c.toNat : Int) - 48)) := by rw [take_snoc _ _ _ hc]; exact valD_snoc _ _
                  obtain ⟨v1, v2⟩ := valD_take_le18 (ds := E) (k := t) (by have := HKT.out; omega) (by have := HKT.out; rw [HE.out]; omega) HAD.out
                  have HAN : Hid (AllD E (t + 1)) := HAD.out.next hc hcd.1 hcd.2
                  clear hc hcd
                  generalize valD (E.take t) = vt at *
                  go_wp2_with fail
                  refine (isd_yes _ _ hcd1 hcd2).mono ?_
                  rintro e w' ⟨rfl, hw⟩; subst w'
                  go_wp2_with fail
                  go_round
                  case rel => exact ⟨k + 1, t + 1, by have := HKT.out; show _ = _; omega, by omega, by have := HKT.out; omega, by go_num, by rw [HV.out], HAN⟩
                  case measure => simp [intOf]; omega
                · have hte : e = t := by have := HKT.out; omega
                  have hkq : q = k := by omega
                  subst hte
                  subst hkq
                  have hEt : E.take e = E := by rw [← HE.out, List.take_length]
                  rw [hEt, HVE.out]
                  clear hEt hlt
                  go_wp2_with fail
                  go_quiet (fail)
                  go_wp2_with fail
                  (try simp only [Exit.inBlock, Exit.then])
                  refine bodyPost_ret (results_tmp4 rfl _ _ _) rfl ?_
                  exact ⟨rfl, below_drewN HBW.out _⟩
  | true =>
    have hmn := (HS.out.yes rfl).1
    have hoo := (HS.out.yes rfl).2.1
    have hc45 := (HS.out.yes rfl).2.2
    have hcM := HS.out.mm
    subst hmn
    subst hoo
    have hmb : ((n : Int) + 1 + 1 == 0) = false := by rw [beq_eq_false_iff_ne]; omega
    have hcz0 : ¬ cap = 0 := by omega
    have hcz1 : ¬ cap = 1 := by omega
    have hcl0 : (n : Int) + 1 ≤ (cap : Int) := by omega
    have hml : (n : Int) + 1 < (n : Int) + 1 + 1 := by omega
    have hml0 : (0 : Int) < (n : Int) + 1 := by omega
    have hml1 : (1 : Int) ≤ (n : Int) + 1 := by omega
    have hn64 : (n : Int) ≤ 3999999 := by omega
    clear hm4
    go_enter Tryd.func16, Tryd.ntmps16
    go_wp2_with fail
    clear hmb hml hcM HS hnb e45 hc45 hml0 hml1 hcl0 hcz0 hcz1
    have hn63 : (n : Int) ≤ 4000000 := by omega
    clear hn64
    obtain ⟨C, hC⟩ : ∃ C, cap - 1 = C := ⟨_, rfl⟩
    have hc1' : n + 1 ≤ C := by omega
    have hc2' : C ≤ 9223372036854775807 := by omega
    rw [hC]
    clear hC hc1 hc2
    have hc1 := hc1'
    have hc2 := hc2'
    clear hc1' hc2'
    have hcz : ¬ C = 0 := by omega
    have hcl : (n : Int) ≤ (C : Int) := by omega
    obtain ⟨o1, ho1⟩ : ∃ o1, o + 1 = o1 := ⟨_, rfl⟩
    rw [ho1] at HB hk0 ⊢
    clear ho1
    have HM : Hid (Body w g o1 M) := HB.out.front HBM.out
    have HX : Hid (Body w g (o1 + (p + 1)) X) := HB.out.back (D := M ++ [101]) (by rw [HBM.out]; simp) (by simp [HP.out])
    have hee : w.cell? ⟨g, o1 + p, none⟩ = some (.int .u8 101) := HB.out p 101 (by rw [HBM.out, List.getElem?_append_right (by rw [HP.out]; omega), HP.out]; simp)
    go_loop [7, 8] (fun e i => e = .int .i64 (-1) ∧ ∃ k : Nat, k ≤ p ∧ i = .int .i64 k) (fun _ i => p - (intOf i).toNat)
    case atStart => exact ⟨rfl, 0, Nat.zero_le _, rfl⟩
    case round =>
      obtain ⟨rfl, k, hk, rfl⟩ := hrel
      by_cases hlt : k < p
      · obtain ⟨c, hc⟩ := getElem?_of_lt' M k (by rw [HP.out]; exact hlt)
        have hcell := HM.out k c hc
        have hcd := HMD.out c (List.mem_of_getElem? hc)
        have hcb : ((c.toNat : Int) == 101) = false := by rw [beq_eq_false_iff_ne]; omega
        have hki : (k : Int) < (n : Int) := by omega
        clear hc hcd
        go_wp2_with fail
        go_round
        case rel => exact ⟨rfl, k + 1, by omega, by go_num⟩
        case measure => simp [intOf]; omega
      · have hkk : p = k := by omega
        subst hkk
        clear hlt hk
        have hki : (p : Int) < (n : Int) := by omega
        have hp0 : (0 : Int) ≤ (p : Int) := by omega
        have hpn : ¬ (p : Int) < 0 := by omega
        have hpC : (p : Int) ≤ (C : Int) := by omega
        have hp1n : (p : Int) + 1 ≤ (n : Int) := by omega
        have hCp : ¬ C = p + 1 := by omega
        have hqn : n - (p + 1) = q := by omega
        obtain ⟨cr, hcr⟩ : ∃ cr, C - (p + 1) = cr := ⟨_, rfl⟩
        have hcr1 : q + 1 ≤ cr := by omega
        have hcr2 : cr ≤ 9223372036854775807 := by omega
        have hpb : ((p : Int) == 0) = false := by rw [beq_eq_false_iff_ne]; omega
        have hpi : (0 : Int) < (p : Int) := by omega
        go_wp2_with fail
        refine (isd_yes _ _ (by omega) (by omega)).mono ?_
        rintro e w' ⟨rfl, hw⟩; subst w'
        rcases HSG.out with ⟨hsg, hsx⟩ | ⟨hsg, hsx⟩
        · subst hsx
          have HSGS : Hid (sg = 43) := hsg
          clear hsg
          go_wp2_with (first
            | (at_make; refine wpList_make_own _ rfl _ _ 22 rfl w.heap.size 5 i0 (.int .u8 0) 1 Tryd.underlying22 hi hz0 hz1 _ _ _ p rfl rfl rfl (by rw [hz2]; omega) (by unfold maxLen; omega) (Nat.le_refl _) ?_
               intro w1 hrow hgr
               have hb1 : Below w.heap.size w w1 := ⟨hgr.os, hgr.tape, hgr.output, hgr.size, fun k hk => hgr.block k hk (by simp)⟩
               have hk1 : w1.cell? ⟨g, o1, none⟩ = some (.int .u8 (c0.toNat : Int)) := (hb1.cell (p := ⟨g, o1, none⟩) (World.block_lt_of_cell? w _ hk0)).trans hk0
               have hs1 := hb1.size
               clear hgr)
            | (at_builtin; refine wpList_append_bs _ rfl _ _ 22 rfl w.heap.size 5 i0 Tryd.underlying22 hi hz0 hz1 hz2 _ _ _ _ rfl (hrow.alloc _) ⟨w1.heap.size, 0, none⟩ 1 1 [Value.int .u8 (c0.toNat : Int)] rfl rfl (cell_one_new _ _ _) (one_byte _) (by unfold maxLen; omega) (by omega) (by simp; omega) ?_
               intro a2 cap2 w2 hown2 hgr2
               have hb2 : Below w.heap.size (w1.alloc (.cells #[.int .u8 (c0.toNat : Int)] 5)) w2 := hgr2.below (by simp; omega) (fun k hk => (hrow.lt k (by rw [ownBlock_slice]; exact hk)).1)
               have HBW : Hid (Below w.heap.size w w2) := (hb1.trans ((Below.refl _ _).alloc hs1 _)).trans hb2
               have HK2 : Hid (w2.cell? ⟨g, o1, none⟩ = some (.int .u8 (c0.toNat : Int))) := (HBW.out.cell (p := ⟨g, o1, none⟩) (World.block_lt_of_cell? w _ hk0)).trans hk0
               have HR0 : Hid (RD w w2 c0 R 0 a2 cap2) := ⟨by simpa [Lib.byteCells] using hown2, HBW.out⟩
               have hm1 : w2.cell? ⟨g, o1 + 1, none⟩ = some (.int .u8 46) := (HM.out.below HBW.out) 1 46 (by rw [HMR.out]; rfl)
               clear hrow hgr2 hown2 hb1 hb2 hk1 hs1)
            | fail)
          go_loopw [11, 12] (fun v i wr => ∃ k t : Nat, Hid (k = t + 2) ∧ k ≤ p ∧ t ≤ r ∧ i = .int .i64 k ∧ ∃ a cap, v = .slice a (t + 1) cap ∧ Hid (RD w wr c0 R t a cap)) (fun _ i _ => p - (intOf i).toNat)
          case atStart => exact ⟨2, 0, rfl, by omega, by omega, rfl, a2, cap2, rfl, HR0⟩
          case round =>
            clear hm1 HK2 HBW HR0
            obtain ⟨k, t, HKT, hk, ht, rfl, a, capa, rfl, HR⟩ := hrel
            by_cases hlt : k < p
            · obtain ⟨c, hc⟩ := getElem?_of_lt' R t (by have := HKT.out; rw [HRL.out]; omega)
              have hcell : wr.cell? ⟨g, o1 + k, none⟩ = some (.int .u8 (c.toNat : Int)) := by
                have h := (HM.out.below HR.out.below) (t + 2) c (by rw [HMR.out]; simpa using hc)
                rwa [← HKT.out] at h
              have hcd := HRD.out c (List.mem_of_getElem? hc)
              have hcd1 : 48 ≤ (c.toNat : Int) := by omega
              have hcd2 : (c.toNat : Int) ≤ 57 := by omega
              have hki : (k : Int) < (p : Int) := by omega
              have HCR : Hid (R.take (t + 1) = R.take t ++ [c]) := take_snoc _ _ _ hc
              clear hc hcd
              have hown := HR.out.own
              have hsr := HR.out.below.size
              have ht4 : t ≤ 4000000 := by omega
              go_wp2_with fail
              refine (isd_yes _ _ hcd1 hcd2).mono ?_
              rintro e w' ⟨rfl, hw⟩; subst w'
              go_wp2_with (first
                | (at_builtin; refine wpList_append_bs _ rfl _ _ 22 rfl w.heap.size 5 i0 Tryd.underlying22 hi hz0 hz1 hz2 _ _ _ _ rfl (hown.alloc _) ⟨wr.heap.size, 0, none⟩ 1 1 [Value.int .u8 (c.toNat : Int)] rfl rfl (cell_one_new _ _ _) (one_byte _) (by unfold maxLen; omega) (by omega) (by simp; omega) ?_
                   intro a5 cap5 w5 hown5 hgr5
                   have hb5 : Below w.heap.size (wr.alloc (.cells #[.int .u8 (c.toNat : Int)] 5)) w5 := hgr5.below (by simp; omega) (fun k hk => (hown.lt k (by rw [ownBlock_slice]; exact hk)).1)
                   have HR5 : Hid (RD w w5 c0 R (t + 1) a5 cap5) := ⟨by rw [HCR.out, show Lib.byteCells (c0 :: (R.take t ++ [c])) = Lib.byteCells (c0 :: R.take t) ++ [Value.int .u8 (c.toNat : Int)] by simp [Lib.byteCells]]; exact hown5, (HR.out.below.trans ((Below.refl _ _).alloc hsr _)).trans hb5⟩
                   clear hown5 hgr5 hb5))
              go_roundw
              case rel => exact ⟨k + 1, t + 1, by have := HKT.out; show _ = _; omega, by omega, by have := HKT.out; omega, by go_num, a5, cap5, rfl, HR5⟩
              case measure => simp [intOf]; omega
            · have hrt : r = t := by have := HKT.out; omega
              have hkp : p = k := by omega
              subst hrt
              subst hkp
              clear hlt hk ht
              have HBW : Hid (Below w.heap.size w wr) := HR.out.below
              obtain ⟨g3, ha3, _, _, _, hcs3⟩ := row_cells (bs := c0 :: R) (HR.out.full (by rw [← HRL.out, List.take_length])) (by simp [HRL.out]) (by omega)
              subst ha3
              have hcv := conv_at (g := g3) (o := 0) (C := capa) (n := r + 1) (D := c0 :: R) (by simp [HRL.out]) hcs3
              clear hcs3
              have hx0 : wr.cell? ⟨g, o1 + (p + 1), none⟩ = some (.int .u8 43) := by
                have h := (HX.out.below HBW.out) 0 43 (by rw [HXE.out, HSGS.out]; rfl)
                rwa [Nat.add_zero] at h
              go_wp2_with fail
              go_loop [13, 14] (fun v i => ∃ k t : Nat, Hid (k = t + 1) ∧ k ≤ q ∧ t ≤ e ∧ i = .int .i64 k ∧ v = .int .u64 (valD (E.take t)) ∧ Hid (AllD E t)) (fun _ i => q - (intOf i).toNat)
              case atStart => exact ⟨1, 0, rfl, by omega, by omega, rfl, rfl, AllD.zero _⟩
              case round =>
                obtain ⟨k, t, HKT, hk, ht, rfl, rfl, HAD⟩ := hrel
                by_cases hlt : k < q
                · obtain ⟨c, hc⟩ := getElem?_of_lt' E t (by have := HKT.out; rw [HE.out]; omega)
                  have hcell : wr.cell? ⟨g, o1 + (p + 1) + k, none⟩ = some (.int .u8 (c.toNat : Int)) := by
                    have h := (HX.out.below HBW.out) (t + 1) c (by rw [HXE.out]; simpa using hc)
                    rwa [← HKT.out] at h
                  have hcd := HED.out c (List.mem_of_getElem? hc)
                  have hcd1 : 48 ≤ (c.toNat : Int) := by omega
                  have hcd2 : (c.toNat : Int) ≤ 57 := by omega
                  have hki : (k : Int) < (q : Int) := by omega
                  have HV : Hid (valD (E.take (t + 1)) = valD (E.take t) * 10 + ((c.toNat : Int) - 48)) := by rw [take_snoc _ _ _ hc]; exact valD_snoc _ _
                  obtain ⟨v1, v2⟩ := valD_take_le18 (ds := E) (k := t) (by have := HKT.out; omega) (by have := HKT.out; rw [HE.out]; omega) HAD.out
                  have HAN : Hid (AllD E (t + 1)) := HAD.out.next hc hcd.1 hcd.2
                  clear hc hcd
                  generalize valD (E.take t) = vt at *
                  go_wp2_with fail
                  refine (isd_yes _ _ hcd1 hcd2).mono ?_
                  rintro e w' ⟨rfl, hw⟩; subst w'
                  go_wp2_with fail
                  go_round
                  case rel => exact ⟨k + 1, t + 1, by have := HKT.out; show _ = _; omega, by omega, by have := HKT.out; omega, by go_num, by rw [HV.out], HAN⟩
                  case measure => simp [intOf]; omega
                · have hte : e = t := by have := HKT.out; omega
                  have hkq : q = k := by omega
                  subst hte
                  subst hkq
                  have hEt : E.take e = E := by rw [← HE.out, List.take_length]
                  rw [hEt, HVE.out]
                  clear hEt hlt
                  go_wp2_with fail
                  go_quiet (fail)
                  go_wp2_with fail
                  (try simp only [Exit.inBlock, Exit.then])
                  refine bodyPost_ret (results_tmp4 rfl _ _ _) rfl ?_
                  exact ⟨rfl, below_drewN HBW.out _⟩
        · subst hsx
          have HSGS : Hid (sg = 45) := hsg
          clear hsg
          go_wp2_with (first
            | (at_make; refine wpList_make_own _ rfl _ _ 22 rfl w.heap.size 5 i0 (.int .u8 0) 1 Tryd.underlying22 hi hz0 hz1 _ _ _ p rfl rfl rfl (by rw [hz2]; omega) (by unfold maxLen; omega) (Nat.le_refl _) ?_
               intro w1 hrow hgr
               have hb1 : Below w.heap.size w w1 := ⟨hgr.os, hgr.tape, hgr.output, hgr.size, fun k hk => hgr.block k hk (by simp)⟩
               have hk1 : w1.cell? ⟨g, o1, none⟩ = some (.int .u8 (c0.toNat : Int)) := (hb1.cell (p := ⟨g, o1, none⟩) (World.block_lt_of_cell? w _ hk0)).trans hk0
               have hs1 := hb1.size
               clear hgr)
            | (at_builtin; refine wpList_append_bs _ rfl _ _ 22 rfl w.heap.size 5 i0 Tryd.underlying22 hi hz0 hz1 hz2 _ _ _ _ rfl (hrow.alloc _) ⟨w1.heap.size, 0, none⟩ 1 1 [Value.int .u8 (c0.toNat : Int)] rfl rfl (cell_one_new _ _ _) (one_byte _) (by unfold maxLen; omega) (by omega) (by simp; omega) ?_
               intro a2 cap2 w2 hown2 hgr2
               have hb2 : Below w.heap.size (w1.alloc (.cells #[.int .u8 (c0.toNat : Int)] 5)) w2 := hgr2.below (by simp; omega) (fun k hk => (hrow.lt k (by rw [ownBlock_slice]; exact hk)).1)
               have HBW : Hid (Below w.heap.size w w2) := (hb1.trans ((Below.refl _ _).alloc hs1 _)).trans hb2
               have HK2 : Hid (w2.cell? ⟨g, o1, none⟩ = some (.int .u8 (c0.toNat : Int))) := (HBW.out.cell (p := ⟨g, o1, none⟩) (World.block_lt_of_cell? w _ hk0)).trans hk0
               have HR0 : Hid (RD w w2 c0 R 0 a2 cap2) := ⟨by simpa [Lib.byteCells] using hown2, HBW.out⟩
               have hm1 : w2.cell? ⟨g, o1 + 1, none⟩ = some (.int .u8 46) := (HM.out.below HBW.out) 1 46 (by rw [HMR.out]; rfl)
               clear hrow hgr2 hown2 hb1 hb2 hk1 hs1)
            | fail)
          go_loopw [11, 12] (fun v i wr => ∃ k t : Nat, Hid (k = t + 2) ∧ k ≤ p ∧ t ≤ r ∧ i = .int .i64 k ∧ ∃ a cap, v = .slice a (t + 1) cap ∧ Hid (RD w wr c0 R t a cap)) (fun _ i _ => p - (intOf i).toNat)
          case atStart => exact ⟨2, 0, rfl, by omega, by omega, rfl, a2, cap2, rfl, HR0⟩
          case round =>
            clear hm1 HK2 HBW HR0
            obtain ⟨k, t, HKT, hk, ht, rfl, a, capa, rfl, HR⟩ := hrel
            by_cases hlt : k < p
            · obtain ⟨c, hc⟩ := getElem?_of_lt' R t (by have := HKT.out; rw [HRL.out]; omega)
              have hcell : wr.cell? ⟨g, o1 + k, none⟩ = some (.int .u8 (c.toNat : Int)) := by
                have h := (HM.out.below HR.out.below) (t + 2) c (by rw [HMR.out]; simpa using hc)
                rwa [← HKT.out] at h
              have hcd := HRD.out c (List.mem_of_getElem? hc)
              have hcd1 : 48 ≤ (c.toNat : Int) := by omega
              have hcd2 : (c.toNat : Int) ≤ 57 := by omega
              have hki : (k : Int) < (p : Int) := by omega
              have HCR : Hid (R.take (t + 1) = R.take t ++ [c]) := take_snoc _ _ _ hc
              clear hc hcd
              have hown := HR.out.own
              have hsr := HR.out.below.size
              have ht4 : t ≤ 4000000 := by omega
              go_wp2_with fail
              refine (isd_yes _ _ hcd1 hcd2).mono ?_
              rintro e w' ⟨rfl, hw⟩; subst w'
              go_wp2_with (first
                | (at_builtin; refine wpList_append_bs _ rfl _ _ 22 rfl w.heap.size 5 i0 Tryd.underlying22 hi hz0 hz1 hz2 _ _ _ _ rfl (hown.alloc _) ⟨wr.heap.size, 0, none⟩ 1 1 [Value.int .u8 (c.toNat : Int)] rfl rfl (cell_one_new _ _ _) (one_byte _) (by unfold maxLen; omega) (by omega) (by simp; omega) ?_
                   intro a5 cap5 w5 hown5 hgr5
                   have hb5 : Below w.heap.size (wr.alloc (.cells #[.int .u8 (c.toNat : Int)] 5)) w5 := hgr5.below (by simp; omega) (fun k hk => (hown.lt k (by rw [ownBlock_slice]; exact hk)).1)
                   have HR5 : Hid (RD w w5 c0 R (t + 1) a5 cap5) := ⟨by rw [HCR.out, show Lib.byteCells (c0 :: (R.take t ++ [c])) = Lib.byteCells (c0 :: R.take t) ++ [Value.int .u8 (c.toNat : Int)] by simp [Lib.byteCells]]; exact hown5, (HR.out.below.trans ((Below.refl _ _).alloc hsr _)).trans hb5⟩
                   clear hown5 hgr5 hb5))
              go_roundw
              case rel => exact ⟨k + 1, t + 1, by have := HKT.out; show _ = _; omega, by omega, by have := HKT.out; omega, by go_num, a5, cap5, rfl, HR5⟩
              case measure => simp [intOf]; omega
            · have hrt : r = t := by have := HKT.out; omega
              have hkp : p = k := by omega
              subst hrt
              subst hkp
              clear hlt hk ht
              have HBW : Hid (Below w.heap.size w wr) := HR.out.below
              obtain ⟨g3, ha3, _, _, _, hcs3⟩ := row_cells (bs := c0 :: R) (HR.out.full (by rw [← HRL.out, List.take_length])) (by simp [HRL.out]) (by omega)
              subst ha3
              have hcv := conv_at (g := g3) (o := 0) (C := capa) (n := r + 1) (D := c0 :: R) (by simp [HRL.out]) hcs3
              clear hcs3
              have hx0 : wr.cell? ⟨g, o1 + (p + 1), none⟩ = some (.int .u8 45) := by
                have h := (HX.out.below HBW.out) 0 45 (by rw [HXE.out, HSGS.out]; rfl)
                rwa [Nat.add_zero] at h
              go_wp2_with fail
              go_loop [13, 14] (fun v i => ∃ k t : Nat, Hid (k = t + 1) ∧ k ≤ q ∧ t ≤ e ∧ i = .int .i64 k ∧ v = .int .u64 (valD (E.take t)) ∧ Hid (AllD E t)) (fun _ i => q - (intOf i).toNat)
              case atStart => exact ⟨1, 0, rfl, by omega, by omega, rfl, rfl, AllD.zero _⟩
              case round =>
                obtain ⟨k, t, HKT, hk, ht, rfl, rfl, HAD⟩ := hrel
                by_cases hlt : k < q
                · obtain ⟨c, hc⟩ := getElem?_of_lt' E t (by have := HKT.out; rw [HE.out]; omega)
                  have hcell : wr.cell? ⟨g, o1 + (p + 1) + k, none⟩ = some (.int .u8 (c.toNat : Int)) := by
                    have h := (HX.out.below HBW.out) (t + 1) c (by rw [HXE.out]; simpa using hc)
                    rwa [← HKT.out] at h
                  have hcd := HED.out c (List.mem_of_getElem? hc)
                  have hcd1 : 48 ≤ (c.toNat : Int) := by omega
                  have hcd2 : (c.toNat : Int) ≤ 57 := by omega
                  have hki : (k : Int) < (q : Int) := by omega
                  have HV : Hid (valD (E.take (t + 1)) = valD (E.take t) * 10 + ((c.toNat : Int) - 48)) := by rw [take_snoc _ _ _ hc]; exact valD_snoc _ _
                  obtain ⟨v1, v2⟩ := valD_take_le18 (ds := E) (k := t) (by have := HKT.out; omega) (by have := HKT.out; rw [HE.out]; omega) HAD.out
                  have HAN : Hid (AllD E (t + 1)) := HAD.out.next hc hcd.1 hcd.2
                  clear hc hcd
                  generalize valD (E.take t) = vt at *
                  go_wp2_with fail
                  refine (isd_yes _ _ hcd1 hcd2).mono ?_
                  rintro e w' ⟨rfl, hw⟩; subst w'
                  go_wp2_with fail
                  go_round
                  case rel => exact ⟨k + 1, t + 1, by have := HKT.out; show _ = _; omega, by omega, by have := HKT.out; omega, by go_num, by rw [HV.out], HAN⟩
                  case measure => simp [intOf]; omega
                · have hte : e = t := by have := HKT.out; omega
                  have hkq : q = k := by omega
                  subst hte
                  subst hkq
                  have hEt : E.take e = E := by rw [← HE.out, List.take_length]
                  rw [hEt, HVE.out]
                  clear hEt hlt
                  go_wp2_with fail
                  go_quiet (fail)
                  go_wp2_with fail
                  (try simp only [Exit.inBlock, Exit.then])
                  refine bodyPost_ret (results_tmp4 rfl _ _ _) rfl ?_
                  exact ⟨rfl, below_drewN HBW.out _⟩

end Go.Proofs.Qxb6001227aDoor
