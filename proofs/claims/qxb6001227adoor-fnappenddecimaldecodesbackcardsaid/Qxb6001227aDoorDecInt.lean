/-
  hb1DecodeDecimal (16) AT THE TEXTS THAT appendDecimal WRITES: digits alone.
-/
import Derived.Test.Qxb6001227aDoorDec
namespace Go.Proofs.Qxb6001227aDoor
open Go.RowKit

set_option maxRecDepth 100000 in
set_option maxHeartbeats 4000000 in
theorem dec_int (neg : Bool) (g o m o1 n cap : Nat) (B : List UInt8) (D : List UInt8) (w : World) (hS : Start w neg g o m o1 n) (hn : n = B.length) (hm4 : m ≤ 4000000) (hc1 : m + 1 ≤ cap) (hc2 : cap ≤ 9223372036854775807) (hB : Body w g o1 B)
    (hall : ∀ c ∈ B, 48 ≤ c.toNat ∧ c.toNat ≤ 57) (hdig : ∀ c, B[0]? = some c → 48 ≤ c.toNat ∧ c.toNat ≤ 57) (hb1 : 1 ≤ B.length) (hfirst : ∀ c, B[0]? = some c → ¬ c.toNat = 48) (hD : Dig D) (hDB : B = D ++ List.replicate (B.length - D.length) 48) (hle : D.length ≤ B.length) :
    Calls Tryd.prog 16 #[.slice (some ⟨g, o, none⟩) (m + 1) cap] w fun e w' => Decoded neg D ((n : Int) - 1) e ∧ Below w.heap.size w w' := by
  have HA : Hid (∀ c ∈ B, 48 ≤ c.toNat ∧ c.toNat ≤ 57) := hall
  have HF : Hid (∀ c, B[0]? = some c → ¬ c.toNat = 48) := hfirst
  have HD : Hid (Dig D) := hD
  have HDB : Hid (B = D ++ List.replicate (B.length - D.length) 48) := hDB
  obtain ⟨d, hd⟩ : ∃ d, D.length = d + 1 := ⟨D.length - 1, by have := List.length_pos_iff.2 hD.ne; omega⟩
  have hdn : d + 1 ≤ n := by omega
  have HDL : Hid (D.length = d + 1) := hd
  have HB : Hid (Body w g o1 B) := hB
  have HN : Hid (n = B.length) := hn
  have HS : Hid (Start w neg g o m o1 n) := hS
  obtain ⟨c0, hc0⟩ := getElem?_of_lt' B 0 (by omega)
  have H0 : Hid (B[0]? = some c0) := hc0
  have hk0 := hB 0 c0 hc0
  rw [Nat.add_zero] at hk0
  have hd0 := hdig c0 hc0
  have e45 : ((c0.toNat : Int) == 45) = false := by rw [beq_eq_false_iff_ne]; omega
  have hnb : ((n : Int) == 0) = false := by rw [beq_eq_false_iff_ne]; omega
  have hn1 : 1 ≤ n := by omega
  have hni : (0 : Int) < (n : Int) := by omega
  clear hc0 hB hS hn hd0
  have e48 : ((c0.toNat : Int) == 48) = false := by have := HF.out c0 H0.out; rw [beq_eq_false_iff_ne]; omega
  clear hall hdig hfirst hD hDB hle hd hb1
  cases neg with
  | false =>
    have hmn := (HS.out.no rfl).1.symm
    have hoo := (HS.out.no rfl).2
    have hcM := HS.out.mm
    subst hmn
    subst hoo
    obtain ⟨C, hC⟩ : ∃ C, C = cap := ⟨_, rfl⟩
    subst hC
    have hmb : ((n : Int) + 1 == 0) = false := by rw [beq_eq_false_iff_ne]; omega
    have hcz : ¬ C = 0 := by omega
    have hcl : (n : Int) ≤ (C : Int) := by omega
    have hml : (n : Int) < (n : Int) + 1 := by omega
    have hn63 : (n : Int) ≤ 4000000 := by omega
    clear hm4
    go_enter Tryd.func16, Tryd.ntmps16
    go_wp2_with fail
    clear hmb hml hcM HS hnb e45
    go_loop [7, 8] (fun e i => e = .int .i64 (-1) ∧ ∃ k : Nat, k ≤ n ∧ i = .int .i64 k) (fun _ i => n - (intOf i).toNat)
    case atStart => exact ⟨rfl, 0, Nat.zero_le _, rfl⟩
    case round =>
      obtain ⟨rfl, k, hk, rfl⟩ := hrel
      by_cases hlt : k < n
      · obtain ⟨c, hc⟩ := getElem?_of_lt' B k (by rw [← HN.out]; exact hlt)
        have hcell := HB.out k c hc
        have hcd := HA.out c (List.mem_of_getElem? hc)
        have hcb : ((c.toNat : Int) == 101) = false := by rw [beq_eq_false_iff_ne]; omega
        have hki : (k : Int) < (n : Int) := by omega
        clear hc hcd
        go_wp2_with fail
        go_round
        case rel => exact ⟨rfl, k + 1, by omega, by go_num⟩
        case measure => simp [intOf]; omega
      · have hkk : n = k := by omega
        subst hkk
        clear hlt hk
        go_wp2_with fail
        go_loop [16, 17] (fun e i => e = .int .i64 (-1) ∧ ∃ k : Nat, k ≤ n ∧ i = .int .i64 k) (fun _ i => n - (intOf i).toNat)
        case atStart => exact ⟨rfl, 0, Nat.zero_le _, rfl⟩
        case round =>
          obtain ⟨rfl, k, hk, rfl⟩ := hrel
          by_cases hlt : k < n
          · obtain ⟨c, hc⟩ := getElem?_of_lt' B k (by rw [← HN.out]; exact hlt)
            have hcell := HB.out k c hc
            have hcd := HA.out c (List.mem_of_getElem? hc)
            have hcb : ((c.toNat : Int) == 46) = false := by rw [beq_eq_false_iff_ne]; omega
            have hki : (k : Int) < (n : Int) := by omega
            clear hc hcd
            go_wp2_with fail
            go_round
            case rel => exact ⟨rfl, k + 1, by omega, by go_num⟩
            case measure => simp [intOf]; omega
          · have hkk : n = k := by omega
            subst hkk
            clear hlt hk
            go_wp2_with fail
            go_loop [18] (fun i => ∃ k : Nat, k ≤ n ∧ i = .int .i64 k) (fun i => n - (intOf i).toNat)
            case atStart => exact ⟨0, Nat.zero_le _, rfl⟩
            case round =>
              obtain ⟨k, hk, rfl⟩ := hrel
              by_cases hlt : k < n
              · obtain ⟨c, hc⟩ := getElem?_of_lt' B k (by rw [← HN.out]; exact hlt)
                have hcell := HB.out k c hc
                have hcd := HA.out c (List.mem_of_getElem? hc)
                have hki : (k : Int) < (n : Int) := by omega
                clear hc
                go_wp2_with fail
                refine (isd_yes _ _ (by omega) (by omega)).mono ?_
                rintro e w' ⟨rfl, hw⟩; subst w'
                clear hcd
                go_wp2_with fail
                go_round
                case rel => exact ⟨k + 1, by omega, by go_num⟩
                case measure => simp [intOf]; omega
              · have hkk : n = k := by omega
                subst hkk
                clear hlt hk
                by_cases hn1' : n = 1
                · have q1 : ((n : Int) == 1) = true := by rw [beq_iff_eq]; omega
                  clear hn1'
                  go_wp2_with fail
                  go_loop [19] (fun kv => ∃ j : Nat, d ≤ j ∧ j + 1 ≤ n ∧ kv = .int .i64 ((j : Int) + 1)) (fun kv => (intOf kv).toNat)
                  case atStart => exact ⟨n - 1, by omega, by omega, by congr 1; omega⟩
                  case round =>
                    obtain ⟨j, hj1, hj2, rfl⟩ := hrel
                    obtain ⟨c, hc⟩ := getElem?_of_lt' B j (by rw [← HN.out]; omega)
                    have hcell := HB.out j c hc
                    have hji : (j : Int) < (n : Int) := by omega
                    have hj0 : (0 : Int) < (j : Int) + 1 := by omega
                    have hjC : (j : Int) + 1 ≤ (C : Int) := by omega
                    by_cases hjd : d = j
                    · subst hjd
                      have hc48 : ((c.toNat : Int) == 48) = false := by
                        have h1 := front_at HDB.out (by rw [HDL.out]; omega) hc
                        have h2 := HD.out.la c (by rw [HDL.out]; exact h1)
                        rw [beq_eq_false_iff_ne]; omega
                      have hcv := conv_at (W := w) (C := C) (n := d + 1) HDL.out.symm (Body.front HB.out HDB.out)
                      clear hc
                      go_wp2_with fail
                      go_quiet (fail)
                      go_wp2_with fail
                      (try simp only [Exit.inBlock, Exit.then])
                      refine bodyPost_ret (results_tmp4 rfl _ _ _) rfl ?_
                      exact ⟨rfl, below_drewN (Below.refl _ _) _⟩
                    · have hc48 : ((c.toNat : Int) == 48) = true := by
                        rw [zero_at HDB.out (by rw [HDL.out]; omega) hc]; rfl
                      clear hc
                      go_wp2_with fail
                      go_round
                      case rel => exact ⟨j - 1, by omega, by omega, by congr 1; omega⟩
                      case measure => simp [intOf]
                · have q1 : ((n : Int) == 1) = false := by rw [beq_eq_false_iff_ne]; omega
                  clear hn1'
                  go_wp2_with fail
                  go_loop [19] (fun kv => ∃ j : Nat, d ≤ j ∧ j + 1 ≤ n ∧ kv = .int .i64 ((j : Int) + 1)) (fun kv => (intOf kv).toNat)
                  case atStart => exact ⟨n - 1, by omega, by omega, by congr 1; omega⟩
                  case round =>
                    obtain ⟨j, hj1, hj2, rfl⟩ := hrel
                    obtain ⟨c, hc⟩ := getElem?_of_lt' B j (by rw [← HN.out]; omega)
                    have hcell := HB.out j c hc
                    have hji : (j : Int) < (n : Int) := by omega
                    have hj0 : (0 : Int) < (j : Int) + 1 := by omega
                    have hjC : (j : Int) + 1 ≤ (C : Int) := by omega
                    by_cases hjd : d = j
                    · subst hjd
                      have hc48 : ((c.toNat : Int) == 48) = false := by
                        have h1 := front_at HDB.out (by rw [HDL.out]; omega) hc
                        have h2 := HD.out.la c (by rw [HDL.out]; exact h1)
                        rw [beq_eq_false_iff_ne]; omega
                      have hcv := conv_at (W := w) (C := C) (n := d + 1) HDL.out.symm (Body.front HB.out HDB.out)
                      clear hc
                      go_wp2_with fail
                      go_quiet (fail)
                      go_wp2_with fail
                      (try simp only [Exit.inBlock, Exit.then])
                      refine bodyPost_ret (results_tmp4 rfl _ _ _) rfl ?_
                      exact ⟨rfl, below_drewN (Below.refl _ _) _⟩
                    · have hc48 : ((c.toNat : Int) == 48) = true := by
                        rw [zero_at HDB.out (by rw [HDL.out]; omega) hc]; rfl
                      clear hc
                      go_wp2_with fail
                      go_round
                      case rel => exact ⟨j - 1, by omega, by omega, by congr 1; omega⟩
                      case measure => simp [intOf]
  | true =>
    have hmn := (HS.out.yes rfl).1
    have hoo := (HS.out.yes rfl).2.1
    have hc45 := (HS.out.yes rfl).2.2
    have hcM := HS.out.mm
    subst hmn
    subst hoo
    have hmb : ((n : Int) + 1 + 1 == 0) = false := by rw [beq_eq_false_iff_ne]; omega
    have hcz0 : ¬ cap = 0 := by omega
    have hcz1 : ¬ cap = 1 := by omega
    have hcl0 : (n : Int) + 1 ≤ (cap : Int) := by omega
    have hml : (n : Int) + 1 < (n : Int) + 1 + 1 := by omega
    have hml0 : (0 : Int) < (n : Int) + 1 := by omega
    have hml1 : (1 : Int) ≤ (n : Int) + 1 := by omega
    have hn64 : (n : Int) ≤ 3999999 := by omega
    clear hm4
    go_enter Tryd.func16, Tryd.ntmps16
    go_wp2_with fail
    clear hmb hml hcM HS hnb e45 hc45 hml0 hml1 hcl0 hcz0 hcz1
    have hn63 : (n : Int) ≤ 4000000 := by omega
    clear hn64
    obtain ⟨C, hC⟩ : ∃ C, cap - 1 = C := ⟨_, rfl⟩
    have hc1' : n + 1 ≤ C := by omega
    have hc2' : C ≤ 9223372036854775807 := by omega
    rw [hC]
    clear hC hc1 hc2
    have hc1 := hc1'
    have hc2 := hc2'
    clear hc1' hc2'
    have hcz : ¬ C = 0 := by omega
    have hcl : (n : Int) ≤ (C : Int) := by omega
    obtain ⟨o1, ho1⟩ : ∃ o1, o + 1 = o1 := ⟨_, rfl⟩
    rw [ho1] at HB hk0 ⊢
    clear ho1
    go_loop [7, 8] (fun e i => e = .int .i64 (-1) ∧ ∃ k : Nat, k ≤ n ∧ i = .int .i64 k) (fun _ i => n - (intOf i).toNat)
    case atStart => exact ⟨rfl, 0, Nat.zero_le _, rfl⟩
    case round =>
      obtain ⟨rfl, k, hk, rfl⟩ := hrel
      by_cases hlt : k < n
      · obtain ⟨c, hc⟩ := getElem?_of_lt' B k (by rw [← HN.out]; exact hlt)
        have hcell := HB.out k c hc
        have hcd := HA.out c (List.mem_of_getElem? hc)
        have hcb : ((c.toNat : Int) == 101) = false := by rw [beq_eq_false_iff_ne]; omega
        have hki : (k : Int) < (n : Int) := by omega
        clear hc hcd
        go_wp2_with fail
        go_round
        case rel => exact ⟨rfl, k + 1, by omega, by go_num⟩
        case measure => simp [intOf]; omega
      · have hkk : n = k := by omega
        subst hkk
        clear hlt hk
        go_wp2_with fail
        go_loop [16, 17] (fun e i => e = .int .i64 (-1) ∧ ∃ k : Nat, k ≤ n ∧ i = .int .i64 k) (fun _ i => n - (intOf i).toNat)
        case atStart => exact ⟨rfl, 0, Nat.zero_le _, rfl⟩
        case round =>
          obtain ⟨rfl, k, hk, rfl⟩ := hrel
          by_cases hlt : k < n
          · obtain ⟨c, hc⟩ := getElem?_of_lt' B k (by rw [← HN.out]; exact hlt)
            have hcell := HB.out k c hc
            have hcd := HA.out c (List.mem_of_getElem? hc)
            have hcb : ((c.toNat : Int) == 46) = false := by rw [beq_eq_false_iff_ne]; omega
            have hki : (k : Int) < (n : Int) := by omega
            clear hc hcd
            go_wp2_with fail
            go_round
            case rel => exact ⟨rfl, k + 1, by omega, by go_num⟩
            case measure => simp [intOf]; omega
          · have hkk : n = k := by omega
            subst hkk
            clear hlt hk
            go_wp2_with fail
            go_loop [18] (fun i => ∃ k : Nat, k ≤ n ∧ i = .int .i64 k) (fun i => n - (intOf i).toNat)
            case atStart => exact ⟨0, Nat.zero_le _, rfl⟩
            case round =>
              obtain ⟨k, hk, rfl⟩ := hrel
              by_cases hlt : k < n
              · obtain ⟨c, hc⟩ := getElem?_of_lt' B k (by rw [← HN.out]; exact hlt)
                have hcell := HB.out k c hc
                have hcd := HA.out c (List.mem_of_getElem? hc)
                have hki : (k : Int) < (n : Int) := by omega
                clear hc
                go_wp2_with fail
                refine (isd_yes _ _ (by omega) (by omega)).mono ?_
                rintro e w' ⟨rfl, hw⟩; subst w'
                clear hcd
                go_wp2_with fail
                go_round
                case rel => exact ⟨k + 1, by omega, by go_num⟩
                case measure => simp [intOf]; omega
              · have hkk : n = k := by omega
                subst hkk
                clear hlt hk
                by_cases hn1' : n = 1
                · have q1 : ((n : Int) == 1) = true := by rw [beq_iff_eq]; omega
                  clear hn1'
                  go_wp2_with fail
                  go_loop [19] (fun kv => ∃ j : Nat, d ≤ j ∧ j + 1 ≤ n ∧ kv = .int .i64 ((j : Int) + 1)) (fun kv => (intOf kv).toNat)
                  case atStart => exact ⟨n - 1, by omega, by omega, by congr 1; omega⟩
                  case round =>
                    obtain ⟨j, hj1, hj2, rfl⟩ := hrel
                    obtain ⟨c, hc⟩ := getElem?_of_lt' B j (by rw [← HN.out]; omega)
                    have hcell := HB.out j c hc
                    have hji : (j : Int) < (n : Int) := by omega
                    have hj0 : (0 : Int) < (j : Int) + 1 := by omega
                    have hjC : (j : Int) + 1 ≤ (C : Int) := by omega
                    by_cases hjd : d = j
                    · subst hjd
                      have hc48 : ((c.toNat : Int) == 48) = false := by
                        have h1 := front_at HDB.out (by rw [HDL.out]; omega) hc
                        have h2 := HD.out.la c (by rw [HDL.out]; exact h1)
                        rw [beq_eq_false_iff_ne]; omega
                      have hcv := conv_at (W := w) (C := C) (n := d + 1) HDL.out.symm (Body.front HB.out HDB.out)
                      clear hc
                      go_wp2_with fail
                      go_quiet (fail)
                      go_wp2_with fail
                      (try simp only [Exit.inBlock, Exit.then])
                      refine bodyPost_ret (results_tmp4 rfl _ _ _) rfl ?_
                      exact ⟨rfl, below_drewN (Below.refl _ _) _⟩
                    · have hc48 : ((c.toNat : Int) == 48) = true := by
                        rw [zero_at HDB.out (by rw [HDL.out]; omega) hc]; rfl
                      clear hc
                      go_wp2_with fail
                      go_round
                      case rel => exact ⟨j - 1, by omega, by omega, by congr 1; omega⟩
                      case measure => simp [intOf]
                · have q1 : ((n : Int) == 1) = false := by rw [beq_eq_false_iff_ne]; omega
                  clear hn1'
                  go_wp2_with fail
                  go_loop [19] (fun kv => ∃ j : Nat, d ≤ j ∧ j + 1 ≤ n ∧ kv = .int .i64 ((j : Int) + 1)) (fun kv => (intOf kv).toNat)
                  case atStart => exact ⟨n - 1, by omega, by omega, by congr 1; omega⟩
                  case round =>
                    obtain ⟨j, hj1, hj2, rfl⟩ := hrel
                    obtain ⟨c, hc⟩ := getElem?_of_lt' B j (by rw [← HN.out]; omega)
                    have hcell := HB.out j c hc
                    have hji : (j : Int) < (n : Int) := by omega
                    have hj0 : (0 : Int) < (j : Int) + 1 := by omega
                    have hjC : (j : Int) + 1 ≤ (C : Int) := by omega
                    by_cases hjd : d = j
                    · subst hjd
                      have hc48 : ((c.toNat : Int) == 48) = false := by
                        have h1 := front_at HDB.out (by rw [HDL.out]; omega) hc
                        have h2 := HD.out.la c (by rw [HDL.out]; exact h1)
                        rw [beq_eq_false_iff_ne]; omega
                      have hcv := conv_at (W := w) (C := C) (n := d + 1) HDL.out.symm (Body.front HB.out HDB.out)
                      clear hc
                      go_wp2_with fail
                      go_quiet (fail)
                      go_wp2_with fail
                      (try simp only [Exit.inBlock, Exit.then])
                      refine bodyPost_ret (results_tmp4 rfl _ _ _) rfl ?_
                      exact ⟨rfl, below_drewN (Below.refl _ _) _⟩
                    · have hc48 : ((c.toNat : Int) == 48) = true := by
                        rw [zero_at HDB.out (by rw [HDL.out]; omega) hc]; rfl
                      clear hc
                      go_wp2_with fail
                      go_round
                      case rel => exact ⟨j - 1, by omega, by omega, by congr 1; omega⟩
                      case measure => simp [intOf]

set_option maxRecDepth 100000 in
set_option maxHeartbeats 4000000 in
theorem dec_zero (g o1 cap : Nat) (w : World) (hk0 : w.cell? ⟨g, o1, none⟩ = some (.int .u8 48)) (hcM : w.cell? ⟨g, o1 + 1, none⟩ = some (.int .u8 77)) (hc1 : 2 ≤ cap) (hc2 : cap ≤ 9223372036854775807) :
    Calls Tryd.prog 16 #[.slice (some ⟨g, o1, none⟩) 2 cap] w fun e w' => Decoded false [] 0 e ∧ Below w.heap.size w w' := by
  have hcz : ¬ cap = 0 := by omega
  have hcl : (1 : Int) ≤ (cap : Int) := by omega
  go_enter Tryd.func16, Tryd.ntmps16
  go_wp2_with fail
  go_loop [7, 8] (fun e i => e = .int .i64 (-1) ∧ ∃ k : Nat, k ≤ 1 ∧ i = .int .i64 k) (fun _ i => 1 - (intOf i).toNat)
  case atStart => exact ⟨rfl, 0, Nat.zero_le _, rfl⟩
  case round =>
    obtain ⟨rfl, k, hk, rfl⟩ := hrel
    obtain rfl | rfl : k = 0 ∨ k = 1 := by omega
    · go_wp2_with fail
      go_round
      case rel => exact ⟨rfl, 1, by omega, rfl⟩
      case measure => simp [intOf]
    · go_wp2_with fail
      go_loop [16, 17] (fun e i => e = .int .i64 (-1) ∧ ∃ k : Nat, k ≤ 1 ∧ i = .int .i64 k) (fun _ i => 1 - (intOf i).toNat)
      case atStart => exact ⟨rfl, 0, Nat.zero_le _, rfl⟩
      case round =>
        obtain ⟨rfl, k, hk, rfl⟩ := hrel
        obtain rfl | rfl : k = 0 ∨ k = 1 := by omega
        · go_wp2_with fail
          go_round
          case rel => exact ⟨rfl, 1, by omega, rfl⟩
          case measure => simp [intOf]
        · go_wp2_with fail
          go_loop [18] (fun i => ∃ k : Nat, k ≤ 1 ∧ i = .int .i64 k) (fun i => 1 - (intOf i).toNat)
          case atStart => exact ⟨0, Nat.zero_le _, rfl⟩
          case round =>
            obtain ⟨k, hk, rfl⟩ := hrel
            obtain rfl | rfl : k = 0 ∨ k = 1 := by omega
            · go_wp2_with fail
              refine (isd_yes _ _ (by omega) (by omega)).mono ?_
              rintro e w' ⟨rfl, hw⟩; subst w'
              go_wp2_with fail
              go_round
              case rel => exact ⟨1, by omega, rfl⟩
              case measure => simp [intOf]
            · go_wp2_with fail
              (try simp only [Exit.inBlock, Exit.then])
              refine bodyPost_ret (results_tmp4 rfl _ _ _) rfl ?_
              exact ⟨rfl, Below.refl _ _⟩

end Go.Proofs.Qxb6001227aDoor
