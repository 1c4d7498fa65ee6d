/-
  hb1IsDigit (25), hb1ValidDecimal (11), the bound on total length (10).
-/
import Derived.Test.Qxb6001227aDoorCanon
namespace Go.Proofs.Qxb6001227aDoor
open Go.RowKit

set_option maxHeartbeats 400000 in
theorem isd_yes (v : Int) (w : World) (h1 : 48 ≤ v) (h2 : v ≤ 57) :
    Calls Tryd.prog 25 #[.int .u8 v] w fun e w' => e = .returned (.bool true) ∧ w' = w := by
  go_enter Tryd.func25, Tryd.ntmps25
  go_wp2_with fail
  go_ret
  exact ⟨rfl, rfl⟩

set_option maxHeartbeats 400000 in
theorem isd_low (v : Int) (w : World) (h1 : v < 48) :
    Calls Tryd.prog 25 #[.int .u8 v] w fun e w' => e = .returned (.bool false) ∧ w' = w := by
  go_enter Tryd.func25, Tryd.ntmps25
  go_wp2_with fail
  go_ret
  exact ⟨rfl, rfl⟩

set_option maxHeartbeats 400000 in
theorem isd_high (v : Int) (w : World) (h1 : 48 ≤ v) (h2 : 57 < v) :
    Calls Tryd.prog 25 #[.int .u8 v] w fun e w' => e = .returned (.bool false) ∧ w' = w := by
  go_enter Tryd.func25, Tryd.ntmps25
  go_wp2_with fail
  go_ret
  exact ⟨by simp; omega, rfl⟩

set_option maxHeartbeats 400000 in
theorem zb10_any (a : Option Addr) (n cap : Nat) (b : Bool) (s : ByteArray) (x : Int) (w : World) (hL : n ≤ maxLen) (hM : s.size ≤ maxLen) :
    Calls Tryd.prog 10 #[.slice a n cap, .bool b, .string s, .int .i64 x] w fun e w' => SomeBool e ∧ w' = w := by
  unfold maxLen at hL hM
  go_enter Tryd.func10, Tryd.ntmps10
  go_wp2_with fail
  all_goals (go_ret; exact ⟨⟨_, rfl⟩, rfl⟩)

/-- Digits that are in order: none is first or last a 0. -/
structure Dig (D : List UInt8) : Prop where
  ne : D ≠ []
  dg : ∀ c ∈ D, 48 ≤ c.toNat ∧ c.toNat ≤ 57
  hd : ∀ c, D[0]? = some c → ¬ c.toNat = 48
  la : ∀ c, D[D.length - 1]? = some c → ¬ c.toNat = 48

/-- What ValidDecimal says yes to. -/
def Valid (neg : Bool) (D : List UInt8) (x : Int) : Prop := (D = [] ∧ neg = false ∧ x = 0) ∨ Dig D
/-- Some bool; 'true' only of a valid decimal. -/
def SomeValid (neg : Bool) (D : List UInt8) (x : Int) (e : Ending) : Prop := ∃ b, e = .returned (.bool b) ∧ (b = true → Valid neg D x)

theorem results_tmp4 {fn : Func} {t u v x : Tmp} (h : fn.results = #[.tmp t, .tmp u, .tmp v, .tmp x]) (tmps : Array Value) (P : Program) (w : World) :
    (results fn tmps).run P w = .ok (.tuple #[tmps.getD t undef, tmps.getD u undef, tmps.getD v undef, tmps.getD x undef]) w := by
  simp [results, h]

theorem str_at {s : ByteArray} {D : List UInt8} (hs : s.data.toList = D) {k : Nat} {c : UInt8} (h : D[k]? = some c) : ∀ h, s[k]'h = c := by
  intro h'
  subst hs
  have := (List.getElem?_eq_some_iff.1 h).2
  rw [← this]
  rfl
theorem str_size {s : ByteArray} {D : List UInt8} (hs : s.data.toList = D) : s.size = D.length := by subst hs; simp

set_option maxHeartbeats 1000000 in
theorem vd_any (neg : Bool) (s : ByteArray) (D : List UInt8) (x : Int) (w : World) (hs : s.data.toList = D) (hM : D.length ≤ maxLen) :
    Calls Tryd.prog 11 #[.bool neg, .string s, .int .i64 x] w fun e w' => SomeValid neg D x e ∧ w' = w := by
  unfold maxLen at hM
  have hsz := str_size hs
  have HS : Hid (s.data.toList = D) := hs
  clear hs
  by_cases h0 : D.length = 0
  · rw [h0] at hsz
    have HD : Hid (D = []) := List.eq_nil_of_length_eq_zero h0
    clear h0 hM
    cases neg
    · by_cases hx : x = 0
      · have hx0 : (x == 0) = true := by simp [hx]
        have HX : Hid (x = 0) := hx
        clear hx
        go_enter Tryd.func11, Tryd.ntmps11
        go_wp2_with fail
        go_ret
        exact ⟨⟨_, rfl, fun _ => .inl ⟨HD.out, rfl, HX.out⟩⟩, rfl⟩
      · have hx0 : (x == 0) = false := by simp [hx]
        clear hx
        go_enter Tryd.func11, Tryd.ntmps11
        go_wp2_with fail
        go_ret
        exact ⟨⟨_, rfl, fun h => by cases h⟩, rfl⟩
    · go_enter Tryd.func11, Tryd.ntmps11
      go_wp2_with fail
      go_ret
      exact ⟨⟨_, rfl, fun h => by cases h⟩, rfl⟩
  · obtain ⟨m, hm⟩ : ∃ m, D.length = m + 1 := ⟨D.length - 1, by omega⟩
    rw [hm] at hsz hM
    obtain ⟨c0, hc0⟩ := getElem?_of_lt' D 0 (by omega)
    obtain ⟨cl, hcl⟩ := getElem?_of_lt' D m (by omega)
    have hg0 := str_at HS.out hc0
    have hgl := str_at HS.out hcl
    have HM : Hid (D.length = m + 1) := hm
    have H0 : Hid (D[0]? = some c0) := hc0
    have H1 : Hid (D[m]? = some cl) := hcl
    have hm1 : (m : Int) + 1 ≤ 9223372036854775807 := by omega
    have hm2 : m + 1 ≤ 9223372036854775807 := by omega
    have hm0 : ((m : Int) + 1 == 0) = false := by rw [beq_eq_false_iff_ne]; omega
    clear hm hc0 hcl h0 hM
    by_cases e0 : ((c0.toNat : Int) == 48) = true
    · go_enter Tryd.func11, Tryd.ntmps11
      go_wp2_with fail
      go_ret
      exact ⟨⟨_, rfl, fun h => by cases h⟩, rfl⟩
    have e0' : ((c0.toNat : Int) == 48) = false := by simpa using e0
    have E0 : Hid (¬ c0.toNat = 48) := fun h => e0 (by simp [h])
    clear e0
    by_cases e1 : ((cl.toNat : Int) == 48) = true
    · go_enter Tryd.func11, Tryd.ntmps11
      go_wp2_with fail
      go_ret
      exact ⟨⟨_, rfl, fun h => by cases h⟩, rfl⟩
    have e1' : ((cl.toNat : Int) == 48) = false := by simpa using e1
    have E1 : Hid (¬ cl.toNat = 48) := fun h => e1 (by simp [h])
    clear e1
    go_enter Tryd.func11, Tryd.ntmps11
    go_wp2_with fail
    go_loop [7] (fun i => ∃ k : Nat, k ≤ m + 1 ∧ i = .int .i64 k ∧ Hid (∀ c ∈ D.take k, 48 ≤ c.toNat ∧ c.toNat ≤ 57)) (fun i => m + 1 - (intOf i).toNat)
    case atStart => exact ⟨0, Nat.zero_le _, rfl, fun y hy => by simp at hy⟩
    case round =>
      obtain ⟨k, hk, rfl, HK⟩ := hrel
      by_cases hlt : k < m + 1
      · obtain ⟨c, hc⟩ := getElem?_of_lt' D k (by rw [HM.out]; exact hlt)
        have hgk := str_at HS.out hc
        have HCk : Hid (D[k]? = some c) := hc
        have hki : (k : Int) < (m : Int) + 1 := by omega
        clear hc
        go_wp2_with fail
        by_cases h1 : (c.toNat : Int) < 48
        · refine (isd_low _ _ h1).mono ?_
          rintro e w' ⟨rfl, hw⟩; subst w'
          go_wp2_with fail
          go_ret
          exact ⟨⟨_, rfl, fun h => by cases h⟩, rfl⟩
        by_cases h2 : 57 < (c.toNat : Int)
        · refine (isd_high _ _ (by omega) h2).mono ?_
          rintro e w' ⟨rfl, hw⟩; subst w'
          go_wp2_with fail
          go_ret
          exact ⟨⟨_, rfl, fun h => by cases h⟩, rfl⟩
        refine (isd_yes _ _ (by omega) (by omega)).mono ?_
        rintro e w' ⟨rfl, hw⟩; subst w'
        go_wp2_with fail
        go_round
        case rel =>
          refine ⟨k + 1, by omega, by go_num, fun z hz => ?_⟩
          rw [List.take_add_one, HCk.out] at hz
          rcases List.mem_append.1 hz with h | h
          · exact HK.out z h
          · simp at h; subst h; omega
        case measure => simp [intOf]; omega
      · have hkk : k = m + 1 := by omega
        subst hkk
        go_wp2_with fail
        go_ret
        refine ⟨⟨_, rfl, fun _ => .inr ⟨fun h => ?_, fun c hc => HK.out c ?_, fun c hc => ?_, fun c hc => ?_⟩⟩, rfl⟩
        · have := congrArg List.length h
          rw [HM.out] at this
          cases this
        · rw [← HM.out, List.take_length]; exact hc
        · rw [H0.out] at hc; injection hc with hc; subst hc; exact E0.out
        · rw [HM.out, Nat.add_sub_cancel, H1.out] at hc; injection hc with hc; subst hc; exact E1.out

end Go.Proofs.Qxb6001227aDoor
