/-
  THE WALKS OF THE FUNCTIONS THAT ONLY READ: zzStringsBytes (14), zzIndexOf (17), zzSameStrings (18).
-/
import Derived.Test.Qxb6000977aRows
import Derived.WalkKit
import Derived.WalkSpells
import Derived.WalkLawsBesides
import Derived.Deep.QuietTactic
import Derived.BigQuiet
namespace Go.Proofs.Qxb6000977a
open Go.RowKit

/-- A slice's address and the strings that its elements are (nil or empty: no string). -/
def Sl (w : World) (a : Option Addr) (ss : List ByteArray) : Prop :=
  ∀ i s, ss[i]? = some s → ∃ b off, a = some ⟨b, off, none⟩ ∧ w.cell? ⟨b, off + i, none⟩ = some (.string s)

theorem ret_int {k : IntKind} {a b : Int} (h : a = b) : Ending.returned (.int k a) = .returned (.int k b) := by rw [h]

theorem getElem?_of_lt {α : Type} (l : List α) (k : Nat) (h : k < l.length) : ∃ s, l[k]? = some s := ⟨l[k], List.getElem?_eq_getElem h⟩

theorem idx_at {a : Option Addr} {b off : Nat} (ha : a = some ⟨b, off, none⟩) (len cap k : Nat) (kd : IntKind) (hk : k < len) (w : World) :
    (Instr.indexAt 28 (.slice a len cap) (.int kd (k : Int))).run Try.prog w = .ok (.pointer (some ⟨b, off + k, none⟩)) w := by
  subst ha
  have e0 : Try.prog.elem 28 = 9 := by kernel_rfl
  rw [run_indexAt_slice (h := by rw [e0]; exact Try.underlying28), if_pos ⟨by omega, by omega⟩, e0]
  have e1 : (sizeOf 9).run Try.prog w = .ok 1 w := by kernel_rfl
  rw [e1]
  simp [Result.andThen, Addr.add]

set_option maxHeartbeats 400000 in
theorem sb_any (a : Option Addr) (cap : Nat) (ss : List ByteArray) (w : World) (hS : Sl w a ss) (hL : ss.length ≤ maxLen) :
    Calls Try.prog 14 #[.slice a ss.length cap] w fun e w' => (∃ r, e = .returned (.int .i64 r)) ∧ w' = w := by
  unfold maxLen at hL
  have HS : Hid (Sl w a ss) := hS
  clear hS
  go_enter Try.func14, Try.ntmps14
  go_wp2
  go_loop [3, 4] (fun t i => ∃ (k : Nat) (r : Int), k ≤ ss.length ∧ i = .int .i64 k ∧ t = .int .i64 r) (fun _ i => ss.length - (intOf i).toNat)
  case atStart => exact ⟨0, 0, Nat.zero_le _, rfl, rfl⟩
  case round =>
    obtain ⟨k, r, hk, rfl, rfl⟩ := hrel
    by_cases hlt : k < ss.length
    · obtain ⟨s, hs⟩ := getElem?_of_lt ss k hlt
      obtain ⟨b, off, ha, hc⟩ := HS.out k s hs
      have hidx := idx_at ha ss.length cap k .i64 hlt
      clear ha hs
      go_wp2
      · go_ret
        exact ⟨⟨_, rfl⟩, rfl⟩
      · go_round
        case rel => exact ⟨k + 1, _, by omega, by go_num, rfl⟩
        case measure => simp [intOf]; omega
    · go_wp2
      go_ret
      exact ⟨⟨_, rfl⟩, rfl⟩

theorem bytes_eq {s t : ByteArray} (h : s.toList = t.toList) : s = t := by
  cases s; cases t
  rw [ByteArray.toList_eq, ByteArray.toList_eq] at h
  simpa using h
theorem beq_yes {s t : ByteArray} (h : s = t) : (s.toList == t.toList) = true := by simp [h]
theorem beq_no {s t : ByteArray} (h : ¬ s = t) : (s.toList == t.toList) = false := by
  simp only [beq_eq_false_iff_ne, ne_eq]
  exact fun e => h (bytes_eq e)

/-! ### the place of a text among texts -/
def ix : List ByteArray → ByteArray → Option Nat
  | [], _ => none
  | x :: r, t => if x = t then some 0 else (ix r t).map (· + 1)

def ixI (ss : List ByteArray) (t : ByteArray) : Int := match ix ss t with | some i => (i : Int) | none => -1

theorem ix_some_of : ∀ (ss : List ByteArray) (t : ByteArray) (k : Nat), ss[k]? = some t → (∀ j, j < k → ss[j]? ≠ some t) → ix ss t = some k
  | [], _, k, h, _ => by simp at h
  | x :: r, t, 0, h, _ => by simp at h; simp [ix, h]
  | x :: r, t, k + 1, h, hn => by
    have h0 := hn 0 (by omega)
    simp at h0 h
    have := ix_some_of r t k h (fun j hj => by have := hn (j + 1) (by omega); simpa using this)
    simp [ix, h0, this]

theorem ix_none_of : ∀ (ss : List ByteArray) (t : ByteArray), (∀ j : Nat, ss[j]? ≠ some t) → ix ss t = none
  | [], _, _ => rfl
  | x :: r, t, hn => by
    have h0 := hn 0
    simp at h0
    have := ix_none_of r t (fun j => by have := hn (j + 1); simpa using this)
    simp [ix, h0, this]

theorem ix_get : ∀ (ss : List ByteArray) (t : ByteArray) (k : Nat), ix ss t = some k → ss[k]? = some t
  | [], _, _, h => by simp [ix] at h
  | x :: r, t, k, h => by
    by_cases e : x = t
    · simp [ix, e] at h; subst h; simp [e]
    · simp [ix, e] at h
      obtain ⟨j, hj, rfl⟩ := h
      simpa using ix_get r t j hj

theorem ix_lt (ss : List ByteArray) (t : ByteArray) (k : Nat) (h : ix ss t = some k) : k < ss.length := (List.getElem?_eq_some_iff.1 (ix_get ss t k h)).1

theorem ix_append_of_some : ∀ (ss r : List ByteArray) (t : ByteArray) (k : Nat), ix ss t = some k → ix (ss ++ r) t = some k
  | [], _, _, _, h => by simp [ix] at h
  | x :: l, r, t, k, h => by
    by_cases e : x = t
    · simp [ix, e] at h ⊢; exact h
    · simp [ix, e] at h ⊢
      obtain ⟨j, hj, rfl⟩ := h
      exact ⟨j, ix_append_of_some l r t j hj, rfl⟩

theorem ix_append_of_none : ∀ (ss r : List ByteArray) (t : ByteArray), ix ss t = none → ix (ss ++ r) t = (ix r t).map (· + ss.length)
  | [], r, t, _ => by simp
  | x :: l, r, t, h => by
    by_cases e : x = t
    · simp [ix, e] at h
    · simp [ix, e] at h
      simp [ix, e, ix_append_of_none l r t h]
      cases ix r t <;> simp; omega

theorem ixI_some {ss : List ByteArray} {t : ByteArray} {k : Nat} (h : ix ss t = some k) : ixI ss t = (k : Int) := by simp [ixI, h]
theorem ixI_none {ss : List ByteArray} {t : ByteArray} (h : ix ss t = none) : ixI ss t = -1 := by simp [ixI, h]

set_option maxHeartbeats 400000 in
theorem io_any (a : Option Addr) (cap : Nat) (ss : List ByteArray) (t : ByteArray) (w : World) (hS : Sl w a ss) (hL : ss.length ≤ maxLen) :
    Calls Try.prog 17 #[.slice a ss.length cap, .string t] w fun e w' => e = .returned (.int .i64 (ixI ss t)) ∧ w' = w := by
  unfold maxLen at hL
  have HS : Hid (Sl w a ss) := hS
  clear hS
  go_enter Try.func17, Try.ntmps17
  go_wp2
  go_loop [5] (fun i => ∃ (k : Nat), k ≤ ss.length ∧ i = .int .i64 k ∧ Hid (∀ j, j < k → ss[j]? ≠ some t)) (fun i => ss.length - (intOf i).toNat)
  case atStart => exact ⟨0, Nat.zero_le _, rfl, fun j hj => by omega⟩
  case round =>
    obtain ⟨k, hk, rfl, hno⟩ := hrel
    by_cases hlt : k < ss.length
    · obtain ⟨s, hs⟩ := getElem?_of_lt ss k hlt
      obtain ⟨b, off, ha, hc⟩ := HS.out k s hs
      have hidx := idx_at ha ss.length cap k .i64 hlt
      have HH : Hid (ss[k]? = some s) := hs
      clear ha hs
      by_cases hst : s = t
      · have hb := beq_yes hst
        have HE : Hid (s = t) := hst
        clear hst
        go_wp2
        go_ret
        exact ⟨ret_int (ixI_some (ix_some_of ss t k (by rw [HH.out, HE.out]) hno.out)).symm, rfl⟩
      · have hb := beq_no hst
        have HE : Hid (¬ s = t) := hst
        clear hst
        go_wp2
        go_round
        case rel =>
          refine ⟨k + 1, by omega, by go_num, fun j hj => ?_⟩
          by_cases e : j = k
          · subst e; rw [HH.out]; intro h; exact HE.out (Option.some.inj h)
          · exact hno.out j (by omega)
        case measure => simp [intOf]; omega
    · go_wp2
      go_ret
      refine ⟨ret_int (ixI_none (ix_none_of ss t fun j => ?_)).symm, rfl⟩
      by_cases hj : j < k
      · exact hno.out j hj
      · rw [List.getElem?_eq_none (by omega)]; simp

set_option maxHeartbeats 400000 in
theorem same_any (a a' : Option Addr) (cap cap' : Nat) (ss : List ByteArray) (w : World) (hS : Sl w a ss) (hS' : Sl w a' ss) (hL : ss.length ≤ maxLen) :
    Calls Try.prog 18 #[.slice a ss.length cap, .slice a' ss.length cap'] w fun e w' => e = .returned (.bool true) ∧ ∃ n, w' = w.drewN n := by
  unfold maxLen at hL
  have HS : Hid (Sl w a ss) := hS
  have HS' : Hid (Sl w a' ss) := hS'
  clear hS hS'
  have hne : ((ss.length : Int) != (ss.length : Int)) = false := by simp
  go_enter Try.func18, Try.ntmps18
  go_wp2
  go_loopw [5] (fun i wr => ∃ (k m : Nat), k ≤ ss.length ∧ i = .int .i64 k ∧ wr = w.drewN m) (fun i _ => ss.length - (intOf i).toNat)
  case atStart => exact ⟨0, 0, Nat.zero_le _, rfl, rfl⟩
  case round =>
    obtain ⟨k, m, hk, rfl, rfl⟩ := hrel
    by_cases hlt : k < ss.length
    · obtain ⟨s, hs⟩ := getElem?_of_lt ss k hlt
      obtain ⟨b, off, ha, hc⟩ := HS.out k s hs
      obtain ⟨b', off', ha', hc'⟩ := HS'.out k s hs
      have hidx := idx_at ha ss.length cap k .i64 hlt
      have hidx' := idx_at ha' ss.length cap' k .i64 hlt
      clear ha ha' hs
      go_wp2
      go_quiet (fail)
      go_wp2
      go_roundw
      case rel => exact ⟨k + 1, _, by omega, by go_num, rfl⟩
      case measure => simp [intOf]; omega
    · go_wp2
      go_ret
      exact ⟨rfl, _, rfl⟩

end Go.Proofs.Qxb6000977a
