/-
  hb1DecodeDecimal (16) AT THE TEXTS THAT appendDecimal WRITES: a point in it.
-/
import Derived.Test.Qxb6001227aDoorDec
import Derived.Test.Qxb6001227aDoorReads
namespace Go.Proofs.Qxb6001227aDoor
open Go.RowKit

theorem lead_at {F D : List UInt8} {j z : Nat} {c : UInt8} (h : F = List.replicate z 48 ++ D) (hj : j < z) (hc : F[j]? = some c) : c = 48 := by
  rw [h, List.getElem?_append_left (by simpa using hj), List.getElem?_replicate, if_pos hj] at hc
  injection hc with hc
  exact hc.symm
theorem Body.below {w w' : World} {g o B : Nat} {D : List UInt8} (h : Body w g o D) (hb : Below B w w') (hB : w.heap.size ≤ B := by exact Nat.le_refl _) : Body w' g o D := by
  intro i c hc
  have := h i c hc
  exact (hb.cell (p := ⟨g, o + i, none⟩) (Nat.lt_of_lt_of_le (World.block_lt_of_cell? w _ this) hB)).trans this
theorem Body.news {w : World} {g o : Nat} {D : List UInt8} (h : Body w g o D) : ∀ j u, (Lib.byteCells D)[j]? = some u → w.cell? ((⟨g, o, none⟩ : Addr).add j) = some u := by
  intro j u hu
  simp only [Lib.byteCells, List.getElem?_map, Option.map_eq_some_iff] at hu
  obtain ⟨c, hc, rfl⟩ := hu
  rw [Addr.add_lit]
  exact h j c hc

set_option maxRecDepth 100000 in
set_option maxHeartbeats 4000000 in
theorem dec_neg (neg : Bool) (g o m o1 n cap : Nat) (B : List UInt8) (I F D : List UInt8) (zz : Nat) (w : World) (hS : Start w neg g o m o1 n) (hn : n = B.length) (hm4 : m ≤ 4000000) (hc1 : m + 1 ≤ cap) (hc2 : cap ≤ 9223372036854775807) (hB : Body w g o1 B)
    (hall : ∀ c ∈ B, ¬ c.toNat = 101) (hid : ∀ c ∈ I, 48 ≤ c.toNat ∧ c.toNat ≤ 57) (hfd : ∀ c ∈ F, 48 ≤ c.toNat ∧ c.toNat ≤ 57) (hBI : B = I ++ 46 :: F) (hI0 : I ≠ []) (hF0 : F ≠ []) (hI1 : I = [48]) (hD : Dig D) (hFZ : F = List.replicate zz 48 ++ D) :
    Calls Tryd.prog 16 #[.slice (some ⟨g, o, none⟩) (m + 1) cap] w fun e w' => Decoded neg D (-((zz : Int) + 1)) e ∧ Below w.heap.size w w' := by
  have HD : Hid (Dig D) := hD
  have HFZ : Hid (F = List.replicate zz 48 ++ D) := hFZ
  have HI1 : Hid (I = [48]) := hI1
  have hzq : zz < F.length := by
    have h3 := congrArg List.length hFZ
    have h4 := List.length_pos_iff.2 hD.ne
    simp at h3
    omega
  have HA : Hid (∀ c ∈ B, ¬ c.toNat = 101) := hall
  have HID : Hid (∀ c ∈ I, 48 ≤ c.toNat ∧ c.toNat ≤ 57) := hid
  have HFD : Hid (∀ c ∈ F, 48 ≤ c.toNat ∧ c.toNat ≤ 57) := hfd
  obtain ⟨p, hp⟩ : ∃ p, I.length = p := ⟨_, rfl⟩
  obtain ⟨q, hq⟩ : ∃ q, F.length = q := ⟨_, rfl⟩
  have hnpq : n = p + 1 + q := by rw [hn, hBI]; simp; omega
  have hp1 : 1 ≤ p := by rw [← hp]; exact List.length_pos_iff.2 hI0
  have hq1 : 1 ≤ q := by rw [← hq]; exact List.length_pos_iff.2 hF0
  have HBI : Hid (B = I ++ 46 :: F) := hBI
  have hb1 : 1 ≤ B.length := by omega
  have hdig : ∀ c, B[0]? = some c → 48 ≤ c.toNat ∧ c.toNat ≤ 57 := fun c hc => hid c (List.mem_of_getElem? (front_at hBI (by omega) hc))
  have HB : Hid (Body w g o1 B) := hB
  have HN : Hid (n = B.length) := hn
  have HS : Hid (Start w neg g o m o1 n) := hS
  obtain ⟨c0, hc0⟩ := getElem?_of_lt' B 0 (by omega)
  have H0 : Hid (B[0]? = some c0) := hc0
  have hk0 := hB 0 c0 hc0
  rw [Nat.add_zero] at hk0
  have hd0 := hdig c0 hc0
  have e45 : ((c0.toNat : Int) == 45) = false := by rw [beq_eq_false_iff_ne]; omega
  have hnb : ((n : Int) == 0) = false := by rw [beq_eq_false_iff_ne]; omega
  have hn1 : 1 ≤ n := by omega
  have hni : (0 : Int) < (n : Int) := by omega
  clear hc0 hB hS hn hd0
  have H0I : Hid (I[0]? = some c0) := front_at hBI (by omega) H0.out
  have HP : Hid (I.length = p) := hp
  have hnp1 : n ≤ p + 1 + q := by omega
  have hnp2 : p + 1 + q ≤ n := by omega
  have HQ : Hid (F.length = q) := hq
  clear hall hid hfd hp hq hBI hI0 hF0 hdig hb1 hnpq
  rw [HQ.out] at hzq
  have q1 : ((p : Int) == 1) = true := by have h := HP.out; rw [HI1.out] at h; rw [beq_iff_eq]; simp at h; omega
  have e48 : ((c0.toNat : Int) == 48) = true := by have h := H0I.out; rw [HI1.out] at h; simp at h; rw [← h]; rfl
  clear hD hFZ hI1
  cases neg with
  | false =>
    have hmn := (HS.out.no rfl).1.symm
    have hoo := (HS.out.no rfl).2
    have hcM := HS.out.mm
    subst hmn
    subst hoo
    obtain ⟨C, hC⟩ : ∃ C, C = cap := ⟨_, rfl⟩
    subst hC
    have hmb : ((n : Int) + 1 == 0) = false := by rw [beq_eq_false_iff_ne]; omega
    have hcz : ¬ C = 0 := by omega
    have hcl : (n : Int) ≤ (C : Int) := by omega
    have hml : (n : Int) < (n : Int) + 1 := by omega
    have hn63 : (n : Int) ≤ 4000000 := by omega
    clear hm4
    go_enter Tryd.func16, Tryd.ntmps16
    go_wp2_with fail
    clear hmb hml hcM HS hnb e45
    have HI : Hid (Body w g o1 I) := HB.out.front HBI.out
    have HF : Hid (Body w g (o1 + (p + 1)) F) := HB.out.back (D := I ++ [46]) (by rw [HBI.out]; simp) (by simp [HP.out])
    have hdot : w.cell? ⟨g, o1 + p, none⟩ = some (.int .u8 46) := HB.out p 46 (by rw [HBI.out, List.getElem?_append_right (by rw [HP.out]; omega), HP.out]; simp)
    go_loop [7, 8] (fun e i => e = .int .i64 (-1) ∧ ∃ k : Nat, k ≤ n ∧ i = .int .i64 k) (fun _ i => n - (intOf i).toNat)
    case atStart => exact ⟨rfl, 0, Nat.zero_le _, rfl⟩
    case round =>
      obtain ⟨rfl, k, hk, rfl⟩ := hrel
      by_cases hlt : k < n
      · obtain ⟨c, hc⟩ := getElem?_of_lt' B k (by rw [← HN.out]; exact hlt)
        have hcell := HB.out k c hc
        have hcd := HA.out c (List.mem_of_getElem? hc)
        have hcb : ((c.toNat : Int) == 101) = false := by rw [beq_eq_false_iff_ne]; omega
        have hki : (k : Int) < (n : Int) := by omega
        clear hc hcd
        go_wp2_with fail
        go_round
        case rel => exact ⟨rfl, k + 1, by omega, by go_num⟩
        case measure => simp [intOf]; omega
      · have hkk : n = k := by omega
        subst hkk
        clear hlt hk
        go_wp2_with fail
        go_loop [16, 17] (fun e i => e = .int .i64 (-1) ∧ ∃ k : Nat, k ≤ p ∧ i = .int .i64 k) (fun _ i => p - (intOf i).toNat)
        case atStart => exact ⟨rfl, 0, Nat.zero_le _, rfl⟩
        case round =>
          obtain ⟨rfl, k, hk, rfl⟩ := hrel
          by_cases hlt : k < p
          · obtain ⟨c, hc⟩ := getElem?_of_lt' I k (by rw [HP.out]; exact hlt)
            have hcell := HI.out k c hc
            have hcd := HID.out c (List.mem_of_getElem? hc)
            have hcb : ((c.toNat : Int) == 46) = false := by rw [beq_eq_false_iff_ne]; omega
            have hki : (k : Int) < (n : Int) := by omega
            clear hc hcd
            go_wp2_with fail
            go_round
            case rel => exact ⟨rfl, k + 1, by omega, by go_num⟩
            case measure => simp [intOf]; omega
          · have hkk : p = k := by omega
            subst hkk
            clear hlt hk
            have hki : (p : Int) < (n : Int) := by omega
            have hp0 : (0 : Int) ≤ (p : Int) := by omega
            have hpn : ¬ (p : Int) < 0 := by omega
            have hpC : (p : Int) ≤ (C : Int) := by omega
            have hp1n : (p : Int) + 1 ≤ (n : Int) := by omega
            have hCp : ¬ C = p + 1 := by omega
            have hqn : n - (p + 1) = q := by omega
            obtain ⟨cr, hcr⟩ : ∃ cr, C - (p + 1) = cr := ⟨_, rfl⟩
            have hcrq : q ≤ cr := by omega
            have hcr1 : q + 1 ≤ cr := by omega
            have hcr2 : cr ≤ 9223372036854775807 := by omega
            have hpb : ((p : Int) == 0) = false := by rw [beq_eq_false_iff_ne]; omega
            have hqb : ((q : Int) == 0) = false := by rw [beq_eq_false_iff_ne]; omega
            have hpi : (0 : Int) < (p : Int) := by omega
            go_wp2_with fail
            clear hpb hqb hqn hcr hp1n hki hcl hcz hCp
            go_loop [22] (fun i => ∃ k : Nat, k ≤ p ∧ i = .int .i64 k) (fun i => p - (intOf i).toNat)
            case atStart => exact ⟨0, Nat.zero_le _, rfl⟩
            case round =>
              obtain ⟨k, hk, rfl⟩ := hrel
              by_cases hlt : k < p
              · obtain ⟨c, hc⟩ := getElem?_of_lt' I k (by rw [HP.out]; exact hlt)
                have hcell := HI.out k c hc
                have hcd := HID.out c (List.mem_of_getElem? hc)
                have hki : (k : Int) < (p : Int) := by omega
                clear hc
                go_wp2_with fail
                refine (isd_yes _ _ (by omega) (by omega)).mono ?_
                rintro e w' ⟨rfl, hw⟩; subst w'
                clear hcd
                go_wp2_with fail
                go_round
                case rel => exact ⟨k + 1, by omega, by go_num⟩
                case measure => simp [intOf]; omega
              · have hkk : p = k := by omega
                subst hkk
                clear hlt hk
                go_wp2_with fail
                go_loop [23] (fun i => ∃ k : Nat, k ≤ q ∧ i = .int .i64 k) (fun i => q - (intOf i).toNat)
                case atStart => exact ⟨0, Nat.zero_le _, rfl⟩
                case round =>
                  obtain ⟨k, hk, rfl⟩ := hrel
                  by_cases hlt : k < q
                  · obtain ⟨c, hc⟩ := getElem?_of_lt' F k (by rw [HQ.out]; exact hlt)
                    have hcell := HF.out k c hc
                    have hcd := HFD.out c (List.mem_of_getElem? hc)
                    have hki : (k : Int) < (q : Int) := by omega
                    clear hc
                    go_wp2_with fail
                    refine (isd_yes _ _ (by omega) (by omega)).mono ?_
                    rintro e w' ⟨rfl, hw⟩; subst w'
                    clear hcd
                    go_wp2_with fail
                    go_round
                    case rel => exact ⟨k + 1, by omega, by go_num⟩
                    case measure => simp [intOf]; omega
                  · have hkk : q = k := by omega
                    subst hkk
                    clear hlt hk
                    go_wp2_with fail
                    go_loop [24] (fun i => ∃ z : Nat, z ≤ zz ∧ i = .int .i64 z) (fun i => zz - (intOf i).toNat)
                    case atStart => exact ⟨0, Nat.zero_le _, rfl⟩
                    case round =>
                      obtain ⟨z, hz, rfl⟩ := hrel
                      obtain ⟨c, hc⟩ := getElem?_of_lt' F z (by rw [HQ.out]; omega)
                      have hcell := HF.out z c hc
                      have hki : (z : Int) < (q : Int) := by omega
                      by_cases hlt : z < zz
                      · have hc48 : ((c.toNat : Int) == 48) = true := by rw [lead_at HFZ.out hlt hc]; rfl
                        clear hc
                        go_wp2_with fail
                        go_round
                        case rel => exact ⟨z + 1, by omega, by go_num⟩
                        case measure => simp [intOf]; omega
                      · have hkk : zz = z := by omega
                        subst hkk
                        have hc48 : ((c.toNat : Int) == 48) = false := by
                          have h1 := HD.out.hd c (by have h2 := hc; rw [HFZ.out, List.getElem?_append_right (by simp)] at h2; simpa using h2)
                          rw [beq_eq_false_iff_ne]; omega
                        have hz0 : (zz : Int) ≤ (q : Int) := by omega
                        have hcz2 : ¬ cr = zz := by omega
                        have hcv := conv_at (W := w) (C := cr - zz) (n := q - zz) (by have h3 := congrArg List.length HFZ.out; rw [List.length_append, List.length_replicate, HQ.out] at h3; omega) (Body.back (k := zz) HF.out HFZ.out (by simp))
                        clear hc hlt hz
                        go_wp2_with fail
                        go_quiet (fail)
                        go_wp2_with fail
                        (try simp only [Exit.inBlock, Exit.then])
                        refine bodyPost_ret (results_tmp4 rfl _ _ _) rfl ?_
                        exact ⟨rfl, below_drewN (Below.refl _ _) _⟩
  | true =>
    have hmn := (HS.out.yes rfl).1
    have hoo := (HS.out.yes rfl).2.1
    have hc45 := (HS.out.yes rfl).2.2
    have hcM := HS.out.mm
    subst hmn
    subst hoo
    have hmb : ((n : Int) + 1 + 1 == 0) = false := by rw [beq_eq_false_iff_ne]; omega
    have hcz0 : ¬ cap = 0 := by omega
    have hcz1 : ¬ cap = 1 := by omega
    have hcl0 : (n : Int) + 1 ≤ (cap : Int) := by omega
    have hml : (n : Int) + 1 < (n : Int) + 1 + 1 := by omega
    have hml0 : (0 : Int) < (n : Int) + 1 := by omega
    have hml1 : (1 : Int) ≤ (n : Int) + 1 := by omega
    have hn64 : (n : Int) ≤ 3999999 := by omega
    clear hm4
    go_enter Tryd.func16, Tryd.ntmps16
    go_wp2_with fail
    clear hmb hml hcM HS hnb e45 hc45 hml0 hml1 hcl0 hcz0 hcz1
    have hn63 : (n : Int) ≤ 4000000 := by omega
    clear hn64
    obtain ⟨C, hC⟩ : ∃ C, cap - 1 = C := ⟨_, rfl⟩
    have hc1' : n + 1 ≤ C := by omega
    have hc2' : C ≤ 9223372036854775807 := by omega
    rw [hC]
    clear hC hc1 hc2
    have hc1 := hc1'
    have hc2 := hc2'
    clear hc1' hc2'
    have hcz : ¬ C = 0 := by omega
    have hcl : (n : Int) ≤ (C : Int) := by omega
    obtain ⟨o1, ho1⟩ : ∃ o1, o + 1 = o1 := ⟨_, rfl⟩
    rw [ho1] at HB hk0 ⊢
    clear ho1
    have HI : Hid (Body w g o1 I) := HB.out.front HBI.out
    have HF : Hid (Body w g (o1 + (p + 1)) F) := HB.out.back (D := I ++ [46]) (by rw [HBI.out]; simp) (by simp [HP.out])
    have hdot : w.cell? ⟨g, o1 + p, none⟩ = some (.int .u8 46) := HB.out p 46 (by rw [HBI.out, List.getElem?_append_right (by rw [HP.out]; omega), HP.out]; simp)
    go_loop [7, 8] (fun e i => e = .int .i64 (-1) ∧ ∃ k : Nat, k ≤ n ∧ i = .int .i64 k) (fun _ i => n - (intOf i).toNat)
    case atStart => exact ⟨rfl, 0, Nat.zero_le _, rfl⟩
    case round =>
      obtain ⟨rfl, k, hk, rfl⟩ := hrel
      by_cases hlt : k < n
      · obtain ⟨c, hc⟩ := getElem?_of_lt' B k (by rw [← HN.out]; exact hlt)
        have hcell := HB.out k c hc
        have hcd := HA.out c (List.mem_of_getElem? hc)
        have hcb : ((c.toNat : Int) == 101) = false := by rw [beq_eq_false_iff_ne]; omega
        have hki : (k : Int) < (n : Int) := by omega
        clear hc hcd
        go_wp2_with fail
        go_round
        case rel => exact ⟨rfl, k + 1, by omega, by go_num⟩
        case measure => simp [intOf]; omega
      · have hkk : n = k := by omega
        subst hkk
        clear hlt hk
        go_wp2_with fail
        go_loop [16, 17] (fun e i => e = .int .i64 (-1) ∧ ∃ k : Nat, k ≤ p ∧ i = .int .i64 k) (fun _ i => p - (intOf i).toNat)
        case atStart => exact ⟨rfl, 0, Nat.zero_le _, rfl⟩
        case round =>
          obtain ⟨rfl, k, hk, rfl⟩ := hrel
          by_cases hlt : k < p
          · obtain ⟨c, hc⟩ := getElem?_of_lt' I k (by rw [HP.out]; exact hlt)
            have hcell := HI.out k c hc
            have hcd := HID.out c (List.mem_of_getElem? hc)
            have hcb : ((c.toNat : Int) == 46) = false := by rw [beq_eq_false_iff_ne]; omega
            have hki : (k : Int) < (n : Int) := by omega
            clear hc hcd
            go_wp2_with fail
            go_round
            case rel => exact ⟨rfl, k + 1, by omega, by go_num⟩
            case measure => simp [intOf]; omega
          · have hkk : p = k := by omega
            subst hkk
            clear hlt hk
            have hki : (p : Int) < (n : Int) := by omega
            have hp0 : (0 : Int) ≤ (p : Int) := by omega
            have hpn : ¬ (p : Int) < 0 := by omega
            have hpC : (p : Int) ≤ (C : Int) := by omega
            have hp1n : (p : Int) + 1 ≤ (n : Int) := by omega
            have hCp : ¬ C = p + 1 := by omega
            have hqn : n - (p + 1) = q := by omega
            obtain ⟨cr, hcr⟩ : ∃ cr, C - (p + 1) = cr := ⟨_, rfl⟩
            have hcrq : q ≤ cr := by omega
            have hcr1 : q + 1 ≤ cr := by omega
            have hcr2 : cr ≤ 9223372036854775807 := by omega
            have hpb : ((p : Int) == 0) = false := by rw [beq_eq_false_iff_ne]; omega
            have hqb : ((q : Int) == 0) = false := by rw [beq_eq_false_iff_ne]; omega
            have hpi : (0 : Int) < (p : Int) := by omega
            go_wp2_with fail
            clear hpb hqb hqn hcr hp1n hki hcl hcz hCp
            go_loop [22] (fun i => ∃ k : Nat, k ≤ p ∧ i = .int .i64 k) (fun i => p - (intOf i).toNat)
            case atStart => exact ⟨0, Nat.zero_le _, rfl⟩
            case round =>
              obtain ⟨k, hk, rfl⟩ := hrel
              by_cases hlt : k < p
              · obtain ⟨c, hc⟩ := getElem?_of_lt' I k (by rw [HP.out]; exact hlt)
                have hcell := HI.out k c hc
                have hcd := HID.out c (List.mem_of_getElem? hc)
                have hki : (k : Int) < (p : Int) := by omega
                clear hc
                go_wp2_with fail
                refine (isd_yes _ _ (by omega) (by omega)).mono ?_
                rintro e w' ⟨rfl, hw⟩; subst w'
                clear hcd
                go_wp2_with fail
                go_round
                case rel => exact ⟨k + 1, by omega, by go_num⟩
                case measure => simp [intOf]; omega
              · have hkk : p = k := by omega
                subst hkk
                clear hlt hk
                go_wp2_with fail
                go_loop [23] (fun i => ∃ k : Nat, k ≤ q ∧ i = .int .i64 k) (fun i => q - (intOf i).toNat)
                case atStart => exact ⟨0, Nat.zero_le _, rfl⟩
                case round =>
                  obtain ⟨k, hk, rfl⟩ := hrel
                  by_cases hlt : k < q
                  · obtain ⟨c, hc⟩ := getElem?_of_lt' F k (by rw [HQ.out]; exact hlt)
                    have hcell := HF.out k c hc
                    have hcd := HFD.out c (List.mem_of_getElem? hc)
                    have hki : (k : Int) < (q : Int) := by omega
                    clear hc
                    go_wp2_with fail
                    refine (isd_yes _ _ (by omega) (by omega)).mono ?_
                    rintro e w' ⟨rfl, hw⟩; subst w'
                    clear hcd
                    go_wp2_with fail
                    go_round
                    case rel => exact ⟨k + 1, by omega, by go_num⟩
                    case measure => simp [intOf]; omega
                  · have hkk : q = k := by omega
                    subst hkk
                    clear hlt hk
                    go_wp2_with fail
                    go_loop [24] (fun i => ∃ z : Nat, z ≤ zz ∧ i = .int .i64 z) (fun i => zz - (intOf i).toNat)
                    case atStart => exact ⟨0, Nat.zero_le _, rfl⟩
                    case round =>
                      obtain ⟨z, hz, rfl⟩ := hrel
                      obtain ⟨c, hc⟩ := getElem?_of_lt' F z (by rw [HQ.out]; omega)
                      have hcell := HF.out z c hc
                      have hki : (z : Int) < (q : Int) := by omega
                      by_cases hlt : z < zz
                      · have hc48 : ((c.toNat : Int) == 48) = true := by rw [lead_at HFZ.out hlt hc]; rfl
                        clear hc
                        go_wp2_with fail
                        go_round
                        case rel => exact ⟨z + 1, by omega, by go_num⟩
                        case measure => simp [intOf]; omega
                      · have hkk : zz = z := by omega
                        subst hkk
                        have hc48 : ((c.toNat : Int) == 48) = false := by
                          have h1 := HD.out.hd c (by have h2 := hc; rw [HFZ.out, List.getElem?_append_right (by simp)] at h2; simpa using h2)
                          rw [beq_eq_false_iff_ne]; omega
                        have hz0 : (zz : Int) ≤ (q : Int) := by omega
                        have hcz2 : ¬ cr = zz := by omega
                        have hcv := conv_at (W := w) (C := cr - zz) (n := q - zz) (by have h3 := congrArg List.length HFZ.out; rw [List.length_append, List.length_replicate, HQ.out] at h3; omega) (Body.back (k := zz) HF.out HFZ.out (by simp))
                        clear hc hlt hz
                        go_wp2_with fail
                        go_quiet (fail)
                        go_wp2_with fail
                        (try simp only [Exit.inBlock, Exit.then])
                        refine bodyPost_ret (results_tmp4 rfl _ _ _) rfl ?_
                        exact ⟨rfl, below_drewN (Below.refl _ _) _⟩

set_option maxRecDepth 100000 in
set_option maxHeartbeats 4000000 in
theorem dec_dot (neg : Bool) (g o m o1 n cap : Nat) (B : List UInt8) (I F : List UInt8) (w : World) (hS : Start w neg g o m o1 n) (hn : n = B.length) (hm4 : m ≤ 4000000) (hc1 : m + 1 ≤ cap) (hc2 : cap ≤ 9223372036854775807) (hB : Body w g o1 B)
    (hall : ∀ c ∈ B, ¬ c.toNat = 101) (hid : ∀ c ∈ I, 48 ≤ c.toNat ∧ c.toNat ≤ 57) (hfd : ∀ c ∈ F, 48 ≤ c.toNat ∧ c.toNat ≤ 57) (hBI : B = I ++ 46 :: F) (hI0 : I ≠ []) (hF0 : F ≠ []) (hf : ∀ c, I[0]? = some c → ¬ c.toNat = 48) :
    Calls Tryd.prog 16 #[.slice (some ⟨g, o, none⟩) (m + 1) cap] w fun e w' => Decoded neg (I ++ F) ((I.length : Int) - 1) e ∧ Below w.heap.size w w' := by
  obtain ⟨i0, hi, hz0, hz1, hz2⟩ := info_parts info5
  have HFI : Hid (∀ c, I[0]? = some c → ¬ c.toNat = 48) := hf
  have HA : Hid (∀ c ∈ B, ¬ c.toNat = 101) := hall
  have HID : Hid (∀ c ∈ I, 48 ≤ c.toNat ∧ c.toNat ≤ 57) := hid
  have HFD : Hid (∀ c ∈ F, 48 ≤ c.toNat ∧ c.toNat ≤ 57) := hfd
  obtain ⟨p, hp⟩ : ∃ p, I.length = p := ⟨_, rfl⟩
  obtain ⟨q, hq⟩ : ∃ q, F.length = q := ⟨_, rfl⟩
  have hnpq : n = p + 1 + q := by rw [hn, hBI]; simp; omega
  have hp1 : 1 ≤ p := by rw [← hp]; exact List.length_pos_iff.2 hI0
  have hq1 : 1 ≤ q := by rw [← hq]; exact List.length_pos_iff.2 hF0
  have HBI : Hid (B = I ++ 46 :: F) := hBI
  have hb1 : 1 ≤ B.length := by omega
  have hdig : ∀ c, B[0]? = some c → 48 ≤ c.toNat ∧ c.toNat ≤ 57 := fun c hc => hid c (List.mem_of_getElem? (front_at hBI (by omega) hc))
  have HB : Hid (Body w g o1 B) := hB
  have HN : Hid (n = B.length) := hn
  have HS : Hid (Start w neg g o m o1 n) := hS
  obtain ⟨c0, hc0⟩ := getElem?_of_lt' B 0 (by omega)
  have H0 : Hid (B[0]? = some c0) := hc0
  have hk0 := hB 0 c0 hc0
  rw [Nat.add_zero] at hk0
  have hd0 := hdig c0 hc0
  have e45 : ((c0.toNat : Int) == 45) = false := by rw [beq_eq_false_iff_ne]; omega
  have hnb : ((n : Int) == 0) = false := by rw [beq_eq_false_iff_ne]; omega
  have hn1 : 1 ≤ n := by omega
  have hni : (0 : Int) < (n : Int) := by omega
  clear hc0 hB hS hn hd0
  have H0I : Hid (I[0]? = some c0) := front_at hBI (by omega) H0.out
  have HP : Hid (I.length = p) := hp
  have hnp1 : n ≤ p + 1 + q := by omega
  have hnp2 : p + 1 + q ≤ n := by omega
  have HQ : Hid (F.length = q) := hq
  clear hall hid hfd hp hq hBI hI0 hF0 hdig hb1 hnpq
  have e48 : ((c0.toNat : Int) == 48) = false := by have h := HFI.out c0 H0I.out; rw [beq_eq_false_iff_ne]; omega
  clear hf
  rw [HP.out]
  cases neg with
  | false =>
    have hmn := (HS.out.no rfl).1.symm
    have hoo := (HS.out.no rfl).2
    have hcM := HS.out.mm
    subst hmn
    subst hoo
    obtain ⟨C, hC⟩ : ∃ C, C = cap := ⟨_, rfl⟩
    subst hC
    have hmb : ((n : Int) + 1 == 0) = false := by rw [beq_eq_false_iff_ne]; omega
    have hcz : ¬ C = 0 := by omega
    have hcl : (n : Int) ≤ (C : Int) := by omega
    have hml : (n : Int) < (n : Int) + 1 := by omega
    have hn63 : (n : Int) ≤ 4000000 := by omega
    clear hm4
    go_enter Tryd.func16, Tryd.ntmps16
    go_wp2_with fail
    clear hmb hml hcM HS hnb e45
    have HI : Hid (Body w g o1 I) := HB.out.front HBI.out
    have HF : Hid (Body w g (o1 + (p + 1)) F) := HB.out.back (D := I ++ [46]) (by rw [HBI.out]; simp) (by simp [HP.out])
    have hdot : w.cell? ⟨g, o1 + p, none⟩ = some (.int .u8 46) := HB.out p 46 (by rw [HBI.out, List.getElem?_append_right (by rw [HP.out]; omega), HP.out]; simp)
    go_loop [7, 8] (fun e i => e = .int .i64 (-1) ∧ ∃ k : Nat, k ≤ n ∧ i = .int .i64 k) (fun _ i => n - (intOf i).toNat)
    case atStart => exact ⟨rfl, 0, Nat.zero_le _, rfl⟩
    case round =>
      obtain ⟨rfl, k, hk, rfl⟩ := hrel
      by_cases hlt : k < n
      · obtain ⟨c, hc⟩ := getElem?_of_lt' B k (by rw [← HN.out]; exact hlt)
        have hcell := HB.out k c hc
        have hcd := HA.out c (List.mem_of_getElem? hc)
        have hcb : ((c.toNat : Int) == 101) = false := by rw [beq_eq_false_iff_ne]; omega
        have hki : (k : Int) < (n : Int) := by omega
        clear hc hcd
        go_wp2_with fail
        go_round
        case rel => exact ⟨rfl, k + 1, by omega, by go_num⟩
        case measure => simp [intOf]; omega
      · have hkk : n = k := by omega
        subst hkk
        clear hlt hk
        go_wp2_with fail
        go_loop [16, 17] (fun e i => e = .int .i64 (-1) ∧ ∃ k : Nat, k ≤ p ∧ i = .int .i64 k) (fun _ i => p - (intOf i).toNat)
        case atStart => exact ⟨rfl, 0, Nat.zero_le _, rfl⟩
        case round =>
          obtain ⟨rfl, k, hk, rfl⟩ := hrel
          by_cases hlt : k < p
          · obtain ⟨c, hc⟩ := getElem?_of_lt' I k (by rw [HP.out]; exact hlt)
            have hcell := HI.out k c hc
            have hcd := HID.out c (List.mem_of_getElem? hc)
            have hcb : ((c.toNat : Int) == 46) = false := by rw [beq_eq_false_iff_ne]; omega
            have hki : (k : Int) < (n : Int) := by omega
            clear hc hcd
            go_wp2_with fail
            go_round
            case rel => exact ⟨rfl, k + 1, by omega, by go_num⟩
            case measure => simp [intOf]; omega
          · have hkk : p = k := by omega
            subst hkk
            clear hlt hk
            have hki : (p : Int) < (n : Int) := by omega
            have hp0 : (0 : Int) ≤ (p : Int) := by omega
            have hpn : ¬ (p : Int) < 0 := by omega
            have hpC : (p : Int) ≤ (C : Int) := by omega
            have hp1n : (p : Int) + 1 ≤ (n : Int) := by omega
            have hCp : ¬ C = p + 1 := by omega
            have hqn : n - (p + 1) = q := by omega
            obtain ⟨cr, hcr⟩ : ∃ cr, C - (p + 1) = cr := ⟨_, rfl⟩
            have hcrq : q ≤ cr := by omega
            have hcr1 : q + 1 ≤ cr := by omega
            have hcr2 : cr ≤ 9223372036854775807 := by omega
            have hpb : ((p : Int) == 0) = false := by rw [beq_eq_false_iff_ne]; omega
            have hqb : ((q : Int) == 0) = false := by rw [beq_eq_false_iff_ne]; omega
            have hpi : (0 : Int) < (p : Int) := by omega
            go_wp2_with fail
            clear hpb hqb hqn hcr hp1n hki hcl hcz hCp
            go_loop [22] (fun i => ∃ k : Nat, k ≤ p ∧ i = .int .i64 k) (fun i => p - (intOf i).toNat)
            case atStart => exact ⟨0, Nat.zero_le _, rfl⟩
            case round =>
              obtain ⟨k, hk, rfl⟩ := hrel
              by_cases hlt : k < p
              · obtain ⟨c, hc⟩ := getElem?_of_lt' I k (by rw [HP.out]; exact hlt)
                have hcell := HI.out k c hc
                have hcd := HID.out c (List.mem_of_getElem? hc)
                have hki : (k : Int) < (p : Int) := by omega
                clear hc
                go_wp2_with fail
                refine (isd_yes _ _ (by omega) (by omega)).mono ?_
                rintro e w' ⟨rfl, hw⟩; subst w'
                clear hcd
                go_wp2_with fail
                go_round
                case rel => exact ⟨k + 1, by omega, by go_num⟩
                case measure => simp [intOf]; omega
              · have hkk : p = k := by omega
                subst hkk
                clear hlt hk
                go_wp2_with fail
                go_loop [23] (fun i => ∃ k : Nat, k ≤ q ∧ i = .int .i64 k) (fun i => q - (intOf i).toNat)
                case atStart => exact ⟨0, Nat.zero_le _, rfl⟩
                case round =>
                  obtain ⟨k, hk, rfl⟩ := hrel
                  by_cases hlt : k < q
                  · obtain ⟨c, hc⟩ := getElem?_of_lt' F k (by rw [HQ.out]; exact hlt)
                    have hcell := HF.out k c hc
                    have hcd := HFD.out c (List.mem_of_getElem? hc)
                    have hki : (k : Int) < (q : Int) := by omega
                    clear hc
                    go_wp2_with fail
                    refine (isd_yes _ _ (by omega) (by omega)).mono ?_
                    rintro e w' ⟨rfl, hw⟩; subst w'
                    clear hcd
                    go_wp2_with fail
                    go_round
                    case rel => exact ⟨k + 1, by omega, by go_num⟩
                    case measure => simp [intOf]; omega
                  · have hkk : q = k := by omega
                    subst hkk
                    clear hlt hk
                    by_cases hp1' : p = 1
                    · have q1 : ((p : Int) == 1) = true := by rw [beq_iff_eq]; omega
                      clear hp1'
                      go_wp2_with (first
                        | (at_make; refine wpList_make_own _ rfl _ _ 22 rfl w.heap.size 5 i0 (.int .u8 0) 1 Tryd.underlying22 hi hz0 hz1 _ _ _ (p + q) rfl rfl (by simp) (by rw [hz2]; omega) (by unfold maxLen; omega) (Nat.le_refl _) ?_
                           intro w1 hrow hgr
                           have hb1 : Below w.heap.size w w1 := ⟨hgr.os, hgr.tape, hgr.output, hgr.size, fun k hk => hgr.block k hk (by simp)⟩
                           have HI1 : Hid (Body w1 g o1 I) := HI.out.below hb1
                           have HF1 : Hid (Body w1 g (o1 + (p + 1)) F) := HF.out.below hb1
                           have hs1 := hb1.size
                           clear hgr)
                        | (at_builtin; refine wpList_append_bs _ rfl _ _ 22 rfl w.heap.size 5 i0 Tryd.underlying22 hi hz0 hz1 hz2 _ _ _ _ rfl hrow ⟨g, o1, none⟩ p C (Lib.byteCells I) rfl (by rw [Lib.byteCells_length, HP.out]) (HI1.out.news) (bytes_one I) (by unfold maxLen; omega) (by omega) (by omega) ?_
                           intro a2 cap2 w2 hown2 hgr2
                           rw [Nat.zero_add, List.nil_append] at hown2
                           have hb2 : Below w.heap.size w1 w2 := hgr2.below hs1 (fun k hk => (hrow.lt k (by rw [ownBlock_slice]; exact hk)).1)
                           have hs2 := hb2.size
                           have HF2 : Hid (Body w2 g (o1 + (p + 1)) F) := HF.out.below (hb1.trans hb2)
                           clear hrow hgr2)
                        | (at_builtin; refine wpList_append_bs _ rfl _ _ 22 rfl w.heap.size 5 i0 Tryd.underlying22 hi hz0 hz1 hz2 _ _ _ _ rfl hown2 ⟨g, o1 + (p + 1), none⟩ q cr (Lib.byteCells F) rfl (by rw [Lib.byteCells_length, HQ.out]) (HF2.out.news) (bytes_one F) (by unfold maxLen; omega) (by omega) (by omega) ?_
                           intro a3 cap3 w3 hown3 hgr3
                           have hb3 : Below w.heap.size w2 w3 := hgr3.below (by omega) (fun k hk => (hown2.lt k (by rw [ownBlock_slice]; exact hk)).1)
                           clear hown2 hgr3))
                      have HBL : Hid (Below w.heap.size w w3) := (hb1.trans hb2).trans hb3
                      have hown4 : w3.ownsRow w.heap.size 5 1 (.slice a3 (p + q) cap3) (p + q) (Lib.byteCells (I ++ F)) := by rw [Lib.byteCells_append]; exact hown3
                      obtain ⟨g3, ha3, _, _, _, hcs3⟩ := row_cells hown4 (by rw [List.length_append, HP.out, HQ.out]) (by omega)
                      subst ha3
                      have hcv := conv_at (W := w3) (g := g3) (o := 0) (C := cap3) (n := p + q) (D := I ++ F) (by rw [List.length_append, HP.out, HQ.out]) hcs3
                      clear hown3 hown4 hcs3 hb1 hb2 hb3
                      go_wp2_with fail
                      go_quiet (fail)
                      go_wp2_with fail
                      (try simp only [Exit.inBlock, Exit.then])
                      refine bodyPost_ret (results_tmp4 rfl _ _ _) rfl ?_
                      exact ⟨rfl, below_drewN HBL.out _⟩
                    · have q1 : ((p : Int) == 1) = false := by rw [beq_eq_false_iff_ne]; omega
                      clear hp1'
                      go_wp2_with (first
                        | (at_make; refine wpList_make_own _ rfl _ _ 22 rfl w.heap.size 5 i0 (.int .u8 0) 1 Tryd.underlying22 hi hz0 hz1 _ _ _ (p + q) rfl rfl (by simp) (by rw [hz2]; omega) (by unfold maxLen; omega) (Nat.le_refl _) ?_
                           intro w1 hrow hgr
                           have hb1 : Below w.heap.size w w1 := ⟨hgr.os, hgr.tape, hgr.output, hgr.size, fun k hk => hgr.block k hk (by simp)⟩
                           have HI1 : Hid (Body w1 g o1 I) := HI.out.below hb1
                           have HF1 : Hid (Body w1 g (o1 + (p + 1)) F) := HF.out.below hb1
                           have hs1 := hb1.size
                           clear hgr)
                        | (at_builtin; refine wpList_append_bs _ rfl _ _ 22 rfl w.heap.size 5 i0 Tryd.underlying22 hi hz0 hz1 hz2 _ _ _ _ rfl hrow ⟨g, o1, none⟩ p C (Lib.byteCells I) rfl (by rw [Lib.byteCells_length, HP.out]) (HI1.out.news) (bytes_one I) (by unfold maxLen; omega) (by omega) (by omega) ?_
                           intro a2 cap2 w2 hown2 hgr2
                           rw [Nat.zero_add, List.nil_append] at hown2
                           have hb2 : Below w.heap.size w1 w2 := hgr2.below hs1 (fun k hk => (hrow.lt k (by rw [ownBlock_slice]; exact hk)).1)
                           have hs2 := hb2.size
                           have HF2 : Hid (Body w2 g (o1 + (p + 1)) F) := HF.out.below (hb1.trans hb2)
                           clear hrow hgr2)
                        | (at_builtin; refine wpList_append_bs _ rfl _ _ 22 rfl w.heap.size 5 i0 Tryd.underlying22 hi hz0 hz1 hz2 _ _ _ _ rfl hown2 ⟨g, o1 + (p + 1), none⟩ q cr (Lib.byteCells F) rfl (by rw [Lib.byteCells_length, HQ.out]) (HF2.out.news) (bytes_one F) (by unfold maxLen; omega) (by omega) (by omega) ?_
                           intro a3 cap3 w3 hown3 hgr3
                           have hb3 : Below w.heap.size w2 w3 := hgr3.below (by omega) (fun k hk => (hown2.lt k (by rw [ownBlock_slice]; exact hk)).1)
                           clear hown2 hgr3))
                      have HBL : Hid (Below w.heap.size w w3) := (hb1.trans hb2).trans hb3
                      have hown4 : w3.ownsRow w.heap.size 5 1 (.slice a3 (p + q) cap3) (p + q) (Lib.byteCells (I ++ F)) := by rw [Lib.byteCells_append]; exact hown3
                      obtain ⟨g3, ha3, _, _, _, hcs3⟩ := row_cells hown4 (by rw [List.length_append, HP.out, HQ.out]) (by omega)
                      subst ha3
                      have hcv := conv_at (W := w3) (g := g3) (o := 0) (C := cap3) (n := p + q) (D := I ++ F) (by rw [List.length_append, HP.out, HQ.out]) hcs3
                      clear hown3 hown4 hcs3 hb1 hb2 hb3
                      go_wp2_with fail
                      go_quiet (fail)
                      go_wp2_with fail
                      (try simp only [Exit.inBlock, Exit.then])
                      refine bodyPost_ret (results_tmp4 rfl _ _ _) rfl ?_
                      exact ⟨rfl, below_drewN HBL.out _⟩
  | true =>
    have hmn := (HS.out.yes rfl).1
    have hoo := (HS.out.yes rfl).2.1
    have hc45 := (HS.out.yes rfl).2.2
    have hcM := HS.out.mm
    subst hmn
    subst hoo
    have hmb : ((n : Int) + 1 + 1 == 0) = false := by rw [beq_eq_false_iff_ne]; omega
    have hcz0 : ¬ cap = 0 := by omega
    have hcz1 : ¬ cap = 1 := by omega
    have hcl0 : (n : Int) + 1 ≤ (cap : Int) := by omega
    have hml : (n : Int) + 1 < (n : Int) + 1 + 1 := by omega
    have hml0 : (0 : Int) < (n : Int) + 1 := by omega
    have hml1 : (1 : Int) ≤ (n : Int) + 1 := by omega
    have hn64 : (n : Int) ≤ 3999999 := by omega
    clear hm4
    go_enter Tryd.func16, Tryd.ntmps16
    go_wp2_with fail
    clear hmb hml hcM HS hnb e45 hc45 hml0 hml1 hcl0 hcz0 hcz1
    have hn63 : (n : Int) ≤ 4000000 := by omega
    clear hn64
    obtain ⟨C, hC⟩ : ∃ C, cap - 1 = C := ⟨_, rfl⟩
    have hc1' : n + 1 ≤ C := by omega
    have hc2' : C ≤ 9223372036854775807 := by omega
    rw [hC]
    clear hC hc1 hc2
    have hc1 := hc1'
    have hc2 := hc2'
    clear hc1' hc2'
    have hcz : ¬ C = 0 := by omega
    have hcl : (n : Int) ≤ (C : Int) := by omega
    obtain ⟨o1, ho1⟩ : ∃ o1, o + 1 = o1 := ⟨_, rfl⟩
    rw [ho1] at HB hk0 ⊢
    clear ho1
    have HI : Hid (Body w g o1 I) := HB.out.front HBI.out
    have HF : Hid (Body w g (o1 + (p + 1)) F) := HB.out.back (D := I ++ [46]) (by rw [HBI.out]; simp) (by simp [HP.out])
    have hdot : w.cell? ⟨g, o1 + p, none⟩ = some (.int .u8 46) := HB.out p 46 (by rw [HBI.out, List.getElem?_append_right (by rw [HP.out]; omega), HP.out]; simp)
    go_loop [7, 8] (fun e i => e = .int .i64 (-1) ∧ ∃ k : Nat, k ≤ n ∧ i = .int .i64 k) (fun _ i => n - (intOf i).toNat)
    case atStart => exact ⟨rfl, 0, Nat.zero_le _, rfl⟩
    case round =>
      obtain ⟨rfl, k, hk, rfl⟩ := hrel
      by_cases hlt : k < n
      · obtain ⟨c, hc⟩ := getElem?_of_lt' B k (by rw [← HN.out]; exact hlt)
        have hcell := HB.out k c hc
        have hcd := HA.out c (List.mem_of_getElem? hc)
        have hcb : ((c.toNat : Int) == 101) = false := by rw [beq_eq_false_iff_ne]; omega
        have hki : (k : Int) < (n : Int) := by omega
        clear hc hcd
        go_wp2_with fail
        go_round
        case rel => exact ⟨rfl, k + 1, by omega, by go_num⟩
        case measure => simp [intOf]; omega
      · have hkk : n = k := by omega
        subst hkk
        clear hlt hk
        go_wp2_with fail
        go_loop [16, 17] (fun e i => e = .int .i64 (-1) ∧ ∃ k : Nat, k ≤ p ∧ i = .int .i64 k) (fun _ i => p - (intOf i).toNat)
        case atStart => exact ⟨rfl, 0, Nat.zero_le _, rfl⟩
        case round =>
          obtain ⟨rfl, k, hk, rfl⟩ := hrel
          by_cases hlt : k < p
          · obtain ⟨c, hc⟩ := getElem?_of_lt' I k (by rw [HP.out]; exact hlt)
            have hcell := HI.out k c hc
            have hcd := HID.out c (List.mem_of_getElem? hc)
            have hcb : ((c.toNat : Int) == 46) = false := by rw [beq_eq_false_iff_ne]; omega
            have hki : (k : Int) < (n : Int) := by omega
            clear hc hcd
            go_wp2_with fail
            go_round
            case rel => exact ⟨rfl, k + 1, by omega, by go_num⟩
            case measure => simp [intOf]; omega
          · have hkk : p = k := by omega
            subst hkk
            clear hlt hk
            have hki : (p : Int) < (n : Int) := by omega
            have hp0 : (0 : Int) ≤ (p : Int) := by omega
            have hpn : ¬ (p : Int) < 0 := by omega
            have hpC : (p : Int) ≤ (C : Int) := by omega
            have hp1n : (p : Int) + 1 ≤ (n : Int) := by omega
            have hCp : ¬ C = p + 1 := by omega
            have hqn : n - (p + 1) = q := by omega
            obtain ⟨cr, hcr⟩ : ∃ cr, C - (p + 1) = cr := ⟨_, rfl⟩
            have hcrq : q ≤ cr := by omega
            have hcr1 : q + 1 ≤ cr := by omega
            have hcr2 : cr ≤ 9223372036854775807 := by omega
            have hpb : ((p : Int) == 0) = false := by rw [beq_eq_false_iff_ne]; omega
            have hqb : ((q : Int) == 0) = false := by rw [beq_eq_false_iff_ne]; omega
            have hpi : (0 : Int) < (p : Int) := by omega
            go_wp2_with fail
            clear hpb hqb hqn hcr hp1n hki hcl hcz hCp
            go_loop [22] (fun i => ∃ k : Nat, k ≤ p ∧ i = .int .i64 k) (fun i => p - (intOf i).toNat)
            case atStart => exact ⟨0, Nat.zero_le _, rfl⟩
            case round =>
              obtain ⟨k, hk, rfl⟩ := hrel
              by_cases hlt : k < p
              · obtain ⟨c, hc⟩ := getElem?_of_lt' I k (by rw [HP.out]; exact hlt)
                have hcell := HI.out k c hc
                have hcd := HID.out c (List.mem_of_getElem? hc)
                have hki : (k : Int) < (p : Int) := by omega
                clear hc
                go_wp2_with fail
                refine (isd_yes _ _ (by omega) (by omega)).mono ?_
                rintro e w' ⟨rfl, hw⟩; subst w'
                clear hcd
                go_wp2_with fail
                go_round
                case rel => exact ⟨k + 1, by omega, by go_num⟩
                case measure => simp [intOf]; omega
              · have hkk : p = k := by omega
                subst hkk
                clear hlt hk
                go_wp2_with fail
                go_loop [23] (fun i => ∃ k : Nat, k ≤ q ∧ i = .int .i64 k) (fun i => q - (intOf i).toNat)
                case atStart => exact ⟨0, Nat.zero_le _, rfl⟩
                case round =>
                  obtain ⟨k, hk, rfl⟩ := hrel
                  by_cases hlt : k < q
                  · obtain ⟨c, hc⟩ := getElem?_of_lt' F k (by rw [HQ.out]; exact hlt)
                    have hcell := HF.out k c hc
                    have hcd := HFD.out c (List.mem_of_getElem? hc)
                    have hki : (k : Int) < (q : Int) := by omega
                    clear hc
                    go_wp2_with fail
                    refine (isd_yes _ _ (by omega) (by omega)).mono ?_
                    rintro e w' ⟨rfl, hw⟩; subst w'
                    clear hcd
                    go_wp2_with fail
                    go_round
                    case rel => exact ⟨k + 1, by omega, by go_num⟩
                    case measure => simp [intOf]; omega
                  · have hkk : q = k := by omega
                    subst hkk
                    clear hlt hk
                    by_cases hp1' : p = 1
                    · have q1 : ((p : Int) == 1) = true := by rw [beq_iff_eq]; omega
                      clear hp1'
                      go_wp2_with (first
                        | (at_make; refine wpList_make_own _ rfl _ _ 22 rfl w.heap.size 5 i0 (.int .u8 0) 1 Tryd.underlying22 hi hz0 hz1 _ _ _ (p + q) rfl rfl (by simp) (by rw [hz2]; omega) (by unfold maxLen; omega) (Nat.le_refl _) ?_
                           intro w1 hrow hgr
                           have hb1 : Below w.heap.size w w1 := ⟨hgr.os, hgr.tape, hgr.output, hgr.size, fun k hk => hgr.block k hk (by simp)⟩
                           have HI1 : Hid (Body w1 g o1 I) := HI.out.below hb1
                           have HF1 : Hid (Body w1 g (o1 + (p + 1)) F) := HF.out.below hb1
                           have hs1 := hb1.size
                           clear hgr)
                        | (at_builtin; refine wpList_append_bs _ rfl _ _ 22 rfl w.heap.size 5 i0 Tryd.underlying22 hi hz0 hz1 hz2 _ _ _ _ rfl hrow ⟨g, o1, none⟩ p C (Lib.byteCells I) rfl (by rw [Lib.byteCells_length, HP.out]) (HI1.out.news) (bytes_one I) (by unfold maxLen; omega) (by omega) (by omega) ?_
                           intro a2 cap2 w2 hown2 hgr2
                           rw [Nat.zero_add, List.nil_append] at hown2
                           have hb2 : Below w.heap.size w1 w2 := hgr2.below hs1 (fun k hk => (hrow.lt k (by rw [ownBlock_slice]; exact hk)).1)
                           have hs2 := hb2.size
                           have HF2 : Hid (Body w2 g (o1 + (p + 1)) F) := HF.out.below (hb1.trans hb2)
                           clear hrow hgr2)
                        | (at_builtin; refine wpList_append_bs _ rfl _ _ 22 rfl w.heap.size 5 i0 Tryd.underlying22 hi hz0 hz1 hz2 _ _ _ _ rfl hown2 ⟨g, o1 + (p + 1), none⟩ q cr (Lib.byteCells F) rfl (by rw [Lib.byteCells_length, HQ.out]) (HF2.out.news) (bytes_one F) (by unfold maxLen; omega) (by omega) (by omega) ?_
                           intro a3 cap3 w3 hown3 hgr3
                           have hb3 : Below w.heap.size w2 w3 := hgr3.below (by omega) (fun k hk => (hown2.lt k (by rw [ownBlock_slice]; exact hk)).1)
                           clear hown2 hgr3))
                      have HBL : Hid (Below w.heap.size w w3) := (hb1.trans hb2).trans hb3
                      have hown4 : w3.ownsRow w.heap.size 5 1 (.slice a3 (p + q) cap3) (p + q) (Lib.byteCells (I ++ F)) := by rw [Lib.byteCells_append]; exact hown3
                      obtain ⟨g3, ha3, _, _, _, hcs3⟩ := row_cells hown4 (by rw [List.length_append, HP.out, HQ.out]) (by omega)
                      subst ha3
                      have hcv := conv_at (W := w3) (g := g3) (o := 0) (C := cap3) (n := p + q) (D := I ++ F) (by rw [List.length_append, HP.out, HQ.out]) hcs3
                      clear hown3 hown4 hcs3 hb1 hb2 hb3
                      go_wp2_with fail
                      go_quiet (fail)
                      go_wp2_with fail
                      (try simp only [Exit.inBlock, Exit.then])
                      refine bodyPost_ret (results_tmp4 rfl _ _ _) rfl ?_
                      exact ⟨rfl, below_drewN HBL.out _⟩
                    · have q1 : ((p : Int) == 1) = false := by rw [beq_eq_false_iff_ne]; omega
                      clear hp1'
                      go_wp2_with (first
                        | (at_make; refine wpList_make_own _ rfl _ _ 22 rfl w.heap.size 5 i0 (.int .u8 0) 1 Tryd.underlying22 hi hz0 hz1 _ _ _ (p + q) rfl rfl (by simp) (by rw [hz2]; omega) (by unfold maxLen; omega) (Nat.le_refl _) ?_
                           intro w1 hrow hgr
                           have hb1 : Below w.heap.size w w1 := ⟨hgr.os, hgr.tape, hgr.output, hgr.size, fun k hk => hgr.block k hk (by simp)⟩
                           have HI1 : Hid (Body w1 g o1 I) := HI.out.below hb1
                           have HF1 : Hid (Body w1 g (o1 + (p + 1)) F) := HF.out.below hb1
                           have hs1 := hb1.size
                           clear hgr)
                        | (at_builtin; refine wpList_append_bs _ rfl _ _ 22 rfl w.heap.size 5 i0 Tryd.underlying22 hi hz0 hz1 hz2 _ _ _ _ rfl hrow ⟨g, o1, none⟩ p C (Lib.byteCells I) rfl (by rw [Lib.byteCells_length, HP.out]) (HI1.out.news) (bytes_one I) (by unfold maxLen; omega) (by omega) (by omega) ?_
                           intro a2 cap2 w2 hown2 hgr2
                           rw [Nat.zero_add, List.nil_append] at hown2
                           have hb2 : Below w.heap.size w1 w2 := hgr2.below hs1 (fun k hk => (hrow.lt k (by rw [ownBlock_slice]; exact hk)).1)
                           have hs2 := hb2.size
                           have HF2 : Hid (Body w2 g (o1 + (p + 1)) F) := HF.out.below (hb1.trans hb2)
                           clear hrow hgr2)
                        | (at_builtin; refine wpList_append_bs _ rfl _ _ 22 rfl w.heap.size 5 i0 Tryd.underlying22 hi hz0 hz1 hz2 _ _ _ _ rfl hown2 ⟨g, o1 + (p + 1), none⟩ q cr (Lib.byteCells F) rfl (by rw [Lib.byteCells_length, HQ.out]) (HF2.out.news) (bytes_one F) (by unfold maxLen; omega) (by omega) (by omega) ?_
                           intro a3 cap3 w3 hown3 hgr3
                           have hb3 : Below w.heap.size w2 w3 := hgr3.below (by omega) (fun k hk => (hown2.lt k (by rw [ownBlock_slice]; exact hk)).1)
                           clear hown2 hgr3))
                      have HBL : Hid (Below w.heap.size w w3) := (hb1.trans hb2).trans hb3
                      have hown4 : w3.ownsRow w.heap.size 5 1 (.slice a3 (p + q) cap3) (p + q) (Lib.byteCells (I ++ F)) := by rw [Lib.byteCells_append]; exact hown3
                      obtain ⟨g3, ha3, _, _, _, hcs3⟩ := row_cells hown4 (by rw [List.length_append, HP.out, HQ.out]) (by omega)
                      subst ha3
                      have hcv := conv_at (W := w3) (g := g3) (o := 0) (C := cap3) (n := p + q) (D := I ++ F) (by rw [List.length_append, HP.out, HQ.out]) hcs3
                      clear hown3 hown4 hcs3 hb1 hb2 hb3
                      go_wp2_with fail
                      go_quiet (fail)
                      go_wp2_with fail
                      (try simp only [Exit.inBlock, Exit.then])
                      refine bodyPost_ret (results_tmp4 rfl _ _ _) rfl ?_
                      exact ⟨rfl, below_drewN HBL.out _⟩

end Go.Proofs.Qxb6001227aDoor
