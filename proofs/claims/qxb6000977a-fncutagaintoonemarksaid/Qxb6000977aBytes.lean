/-
  THE WALKS OF THE BOUNDS ON TOTAL LENGTH (13, 20, 21, 24): each answers some bool and turns nothing.
-/
import Derived.Test.Qxb6000977aReads
namespace Go.Proofs.Qxb6000977a
open Go.RowKit

/-- Some bool comes back. -/
def SomeBool (e : Ending) : Prop := ∃ b, e = .returned (.bool b)

set_option maxHeartbeats 400000 in
theorem zb13_any (a : Option Addr) (cap : Nat) (ss : List ByteArray) (w : World) (hS : Sl w a ss) (hL : ss.length ≤ maxLen) :
    Calls Try.prog 13 #[.slice a ss.length cap] w fun e w' => SomeBool e ∧ w' = w := by
  unfold maxLen at hL
  have HS : Hid (Sl w a ss) := hS
  clear hS
  go_enter Try.func13, Try.ntmps13
  go_wp2
  all_goals try (go_ret; exact ⟨⟨_, rfl⟩, rfl⟩)
  go_loop [3, 4] (fun t i => ∃ (k : Nat) (r : Int), k ≤ ss.length ∧ i = .int .i64 k ∧ t = .int .i64 r) (fun _ i => ss.length - (intOf i).toNat)
  case atStart => exact ⟨0, _, Nat.zero_le _, rfl, rfl⟩
  case round =>
    obtain ⟨k, r, hk, rfl, rfl⟩ := hrel
    by_cases hlt : k < ss.length
    · obtain ⟨s, hs⟩ := getElem?_of_lt ss k hlt
      obtain ⟨b, off, ha, hc⟩ := HS.out k s hs
      have hidx := idx_at ha ss.length cap k .i64 hlt
      clear ha hs
      go_wp2
      all_goals try (go_ret; exact ⟨⟨_, rfl⟩, rfl⟩)
      go_round
      case rel => exact ⟨k + 1, _, by omega, by go_num, rfl⟩
      case measure => simp [intOf]; omega
    · go_wp2
      go_ret
      exact ⟨⟨_, rfl⟩, rfl⟩

set_option maxHeartbeats 400000 in
theorem zb20_any (a : Option Addr) (cap : Nat) (ss : List ByteArray) (t : ByteArray) (w : World) (hS : Sl w a ss) (hL : ss.length ≤ maxLen) :
    Calls Try.prog 20 #[.slice a ss.length cap, .string t] w fun e w' => SomeBool e ∧ w' = w := by
  unfold maxLen at hL
  have HS : Hid (Sl w a ss) := hS
  clear hS
  go_enter Try.func20, Try.ntmps20
  go_wp2
  all_goals try (go_ret; exact ⟨⟨_, rfl⟩, rfl⟩)
  go_loop [5, 6] (fun t i => ∃ (k : Nat) (r : Int), k ≤ ss.length ∧ i = .int .i64 k ∧ t = .int .i64 r) (fun _ i => ss.length - (intOf i).toNat)
  case atStart => exact ⟨0, _, Nat.zero_le _, rfl, rfl⟩
  case round =>
    obtain ⟨k, r, hk, rfl, rfl⟩ := hrel
    by_cases hlt : k < ss.length
    · obtain ⟨s, hs⟩ := getElem?_of_lt ss k hlt
      obtain ⟨b, off, ha, hc⟩ := HS.out k s hs
      have hidx := idx_at ha ss.length cap k .i64 hlt
      clear ha hs
      go_wp2
      all_goals try (go_ret; exact ⟨⟨_, rfl⟩, rfl⟩)
      go_round
      case rel => exact ⟨k + 1, _, by omega, by go_num, rfl⟩
      case measure => simp [intOf]; omega
    · go_wp2
      all_goals (go_ret; exact ⟨⟨_, rfl⟩, rfl⟩)

set_option maxHeartbeats 2000000 in
theorem zb21_any (a0 : Option Addr) (cap0 : Nat) (xa : List ByteArray) (a1 : Option Addr) (cap1 : Nat) (xb : List ByteArray) (a2 : Option Addr) (cap2 : Nat) (xc : List ByteArray) (w : World) (hS0 : Sl w a0 xa) (hL0 : xa.length ≤ maxLen) (hS1 : Sl w a1 xb) (hL1 : xb.length ≤ maxLen) (hS2 : Sl w a2 xc) (hL2 : xc.length ≤ maxLen) :
    Calls Try.prog 21 #[.slice a0 xa.length cap0, .slice a1 xb.length cap1, .slice a2 xc.length cap2] w fun e w' => SomeBool e ∧ w' = w := by
  unfold maxLen at hL0 hL1 hL2
  have HS0 : Hid (Sl w a0 xa) := hS0
  have HS1 : Hid (Sl w a1 xb) := hS1
  have HS2 : Hid (Sl w a2 xc) := hS2
  clear hS0 hS1 hS2
  go_enter Try.func21, Try.ntmps21
  go_wp2
  all_goals try (go_ret; exact ⟨⟨_, rfl⟩, rfl⟩)
  go_loop [7, 8] (fun t i => ∃ (k : Nat) (r : Int), k ≤ xa.length ∧ i = .int .i64 k ∧ t = .int .i64 r) (fun _ i => xa.length - (intOf i).toNat)
  case atStart => exact ⟨0, _, Nat.zero_le _, rfl, rfl⟩
  case round =>
    obtain ⟨k, r, hk, rfl, rfl⟩ := hrel
    by_cases hlt : k < xa.length
    · obtain ⟨s, hs⟩ := getElem?_of_lt xa k hlt
      obtain ⟨b, off, ha, hc⟩ := HS0.out k s hs
      have hidx := idx_at ha xa.length cap0 k .i64 hlt
      clear ha hs
      go_wp2
      all_goals try (go_ret; exact ⟨⟨_, rfl⟩, rfl⟩)
      go_round
      case rel => exact ⟨k + 1, _, by omega, by go_num, rfl⟩
      case measure => simp [intOf]; omega
    · go_wp2
      all_goals try (go_ret; exact ⟨⟨_, rfl⟩, rfl⟩)
      go_loop [7, 9] (fun t i => ∃ (k : Nat) (r : Int), k ≤ xb.length ∧ i = .int .i64 k ∧ t = .int .i64 r) (fun _ i => xb.length - (intOf i).toNat)
      case atStart => exact ⟨0, _, Nat.zero_le _, rfl, rfl⟩
      case round =>
        obtain ⟨k, r, hk, rfl, rfl⟩ := hrel
        by_cases hlt : k < xb.length
        · obtain ⟨s, hs⟩ := getElem?_of_lt xb k hlt
          obtain ⟨b, off, ha, hc⟩ := HS1.out k s hs
          have hidx := idx_at ha xb.length cap1 k .i64 hlt
          clear ha hs
          go_wp2
          all_goals try (go_ret; exact ⟨⟨_, rfl⟩, rfl⟩)
          go_round
          case rel => exact ⟨k + 1, _, by omega, by go_num, rfl⟩
          case measure => simp [intOf]; omega
        · go_wp2
          all_goals try (go_ret; exact ⟨⟨_, rfl⟩, rfl⟩)
          go_loop [7, 10] (fun t i => ∃ (k : Nat) (r : Int), k ≤ xc.length ∧ i = .int .i64 k ∧ t = .int .i64 r) (fun _ i => xc.length - (intOf i).toNat)
          case atStart => exact ⟨0, _, Nat.zero_le _, rfl, rfl⟩
          case round =>
            obtain ⟨k, r, hk, rfl, rfl⟩ := hrel
            by_cases hlt : k < xc.length
            · obtain ⟨s, hs⟩ := getElem?_of_lt xc k hlt
              obtain ⟨b, off, ha, hc⟩ := HS2.out k s hs
              have hidx := idx_at ha xc.length cap2 k .i64 hlt
              clear ha hs
              go_wp2
              all_goals try (go_ret; exact ⟨⟨_, rfl⟩, rfl⟩)
              go_round
              case rel => exact ⟨k + 1, _, by omega, by go_num, rfl⟩
              case measure => simp [intOf]; omega
            · go_wp2
              all_goals (go_ret; exact ⟨⟨_, rfl⟩, rfl⟩)

set_option maxHeartbeats 2000000 in
theorem zb24_any (a0 : Option Addr) (cap0 : Nat) (xa : List ByteArray) (a1 : Option Addr) (cap1 : Nat) (xb : List ByteArray) (a2 : Option Addr) (cap2 : Nat) (xc : List ByteArray) (a3 : Option Addr) (cap3 : Nat) (xd : List ByteArray) (w : World) (hS0 : Sl w a0 xa) (hL0 : xa.length ≤ maxLen) (hS1 : Sl w a1 xb) (hL1 : xb.length ≤ maxLen) (hS2 : Sl w a2 xc) (hL2 : xc.length ≤ maxLen) (hS3 : Sl w a3 xd) (hL3 : xd.length ≤ maxLen) :
    Calls Try.prog 24 #[.slice a0 xa.length cap0, .slice a1 xb.length cap1, .slice a2 xc.length cap2, .slice a3 xd.length cap3] w fun e w' => SomeBool e ∧ w' = w := by
  unfold maxLen at hL0 hL1 hL2 hL3
  have HS0 : Hid (Sl w a0 xa) := hS0
  have HS1 : Hid (Sl w a1 xb) := hS1
  have HS2 : Hid (Sl w a2 xc) := hS2
  have HS3 : Hid (Sl w a3 xd) := hS3
  clear hS0 hS1 hS2 hS3
  go_enter Try.func24, Try.ntmps24
  go_wp2
  all_goals try (go_ret; exact ⟨⟨_, rfl⟩, rfl⟩)
  go_loop [9, 10] (fun t i => ∃ (k : Nat) (r : Int), k ≤ xa.length ∧ i = .int .i64 k ∧ t = .int .i64 r) (fun _ i => xa.length - (intOf i).toNat)
  case atStart => exact ⟨0, _, Nat.zero_le _, rfl, rfl⟩
  case round =>
    obtain ⟨k, r, hk, rfl, rfl⟩ := hrel
    by_cases hlt : k < xa.length
    · obtain ⟨s, hs⟩ := getElem?_of_lt xa k hlt
      obtain ⟨b, off, ha, hc⟩ := HS0.out k s hs
      have hidx := idx_at ha xa.length cap0 k .i64 hlt
      clear ha hs
      go_wp2
      all_goals try (go_ret; exact ⟨⟨_, rfl⟩, rfl⟩)
      go_round
      case rel => exact ⟨k + 1, _, by omega, by go_num, rfl⟩
      case measure => simp [intOf]; omega
    · go_wp2
      all_goals try (go_ret; exact ⟨⟨_, rfl⟩, rfl⟩)
      go_loop [9, 11] (fun t i => ∃ (k : Nat) (r : Int), k ≤ xb.length ∧ i = .int .i64 k ∧ t = .int .i64 r) (fun _ i => xb.length - (intOf i).toNat)
      case atStart => exact ⟨0, _, Nat.zero_le _, rfl, rfl⟩
      case round =>
        obtain ⟨k, r, hk, rfl, rfl⟩ := hrel
        by_cases hlt : k < xb.length
        · obtain ⟨s, hs⟩ := getElem?_of_lt xb k hlt
          obtain ⟨b, off, ha, hc⟩ := HS1.out k s hs
          have hidx := idx_at ha xb.length cap1 k .i64 hlt
          clear ha hs
          go_wp2
          all_goals try (go_ret; exact ⟨⟨_, rfl⟩, rfl⟩)
          go_round
          case rel => exact ⟨k + 1, _, by omega, by go_num, rfl⟩
          case measure => simp [intOf]; omega
        · go_wp2
          all_goals try (go_ret; exact ⟨⟨_, rfl⟩, rfl⟩)
          go_loop [9, 12] (fun t i => ∃ (k : Nat) (r : Int), k ≤ xc.length ∧ i = .int .i64 k ∧ t = .int .i64 r) (fun _ i => xc.length - (intOf i).toNat)
          case atStart => exact ⟨0, _, Nat.zero_le _, rfl, rfl⟩
          case round =>
            obtain ⟨k, r, hk, rfl, rfl⟩ := hrel
            by_cases hlt : k < xc.length
            · obtain ⟨s, hs⟩ := getElem?_of_lt xc k hlt
              obtain ⟨b, off, ha, hc⟩ := HS2.out k s hs
              have hidx := idx_at ha xc.length cap2 k .i64 hlt
              clear ha hs
              go_wp2
              all_goals try (go_ret; exact ⟨⟨_, rfl⟩, rfl⟩)
              go_round
              case rel => exact ⟨k + 1, _, by omega, by go_num, rfl⟩
              case measure => simp [intOf]; omega
            · go_wp2
              all_goals try (go_ret; exact ⟨⟨_, rfl⟩, rfl⟩)
              go_loop [9, 13] (fun t i => ∃ (k : Nat) (r : Int), k ≤ xd.length ∧ i = .int .i64 k ∧ t = .int .i64 r) (fun _ i => xd.length - (intOf i).toNat)
              case atStart => exact ⟨0, _, Nat.zero_le _, rfl, rfl⟩
              case round =>
                obtain ⟨k, r, hk, rfl, rfl⟩ := hrel
                by_cases hlt : k < xd.length
                · obtain ⟨s, hs⟩ := getElem?_of_lt xd k hlt
                  obtain ⟨b, off, ha, hc⟩ := HS3.out k s hs
                  have hidx := idx_at ha xd.length cap3 k .i64 hlt
                  clear ha hs
                  go_wp2
                  all_goals try (go_ret; exact ⟨⟨_, rfl⟩, rfl⟩)
                  go_round
                  case rel => exact ⟨k + 1, _, by omega, by go_num, rfl⟩
                  case measure => simp [intOf]; omega
                · go_wp2
                  all_goals (go_ret; exact ⟨⟨_, rfl⟩, rfl⟩)

end Go.Proofs.Qxb6000977a
