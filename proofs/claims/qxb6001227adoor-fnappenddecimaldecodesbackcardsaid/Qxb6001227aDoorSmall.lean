/-
  smallInt (28) AND ITS DOOR ZZSmallInt (19): WHAT THEY ANSWER, AS A PLAIN FUNCTION OVER THE TOKEN's BYTES.
-/
import Derived.Test.Qxb6001227aDoorRows
import Derived.WalkKit
import Derived.WalkSpells
import Derived.WalkLawsBesides
namespace Go.Proofs.Qxb6001227aDoor
open Go.RowKit

/-! ### the plain function -/
def isDg (c : UInt8) : Bool := decide (48 ≤ c.toNat) && decide (c.toNat ≤ 57)
/-- The number that the digits say. -/
def valD (ds : List UInt8) : Int := ds.foldl (fun n c => n * 10 + ((c.toNat : Int) - 48)) 0
/-- At least one digit, at most eighteen, the first of several no 0. -/
def shapeB : List UInt8 → Bool
  | [] => false
  | c :: r => decide (r.length < 18) && (r.isEmpty || !(c == 48))
def goodB (ds : List UInt8) : Bool := shapeB ds && ds.all isDg
/-- What smallInt reads; none: refused. -/
def smallI (bs : List UInt8) : Option Int :=
  match bs with
  | [] => none
  | c :: r =>
    if c = 43 then (if goodB r then some (valD r) else none)
    else if c = 45 then (if goodB r then some (-valD r) else none)
    else (if goodB bs then some (valD bs) else none)
def smallV : Option Int → Value
  | none => .tuple #[.int .i64 0, .bool false]
  | some v => .tuple #[.int .i64 v, .bool true]

theorem getElem?_of_lt {α : Type} (l : List α) (k : Nat) (h : k < l.length) : ∃ s, l[k]? = some s := ⟨l[k], List.getElem?_eq_getElem h⟩

theorem valD_snoc (ds : List UInt8) (c : UInt8) : valD (ds ++ [c]) = valD ds * 10 + ((c.toNat : Int) - 48) := by simp [valD]
theorem take_snoc {α : Type} (l : List α) (k : Nat) (c : α) (h : l[k]? = some c) : l.take (k + 1) = l.take k ++ [c] := by rw [List.take_add_one, h]; rfl

theorem valD_bound : ∀ (n : Nat) (ds : List UInt8), ds.length = n → ds.all isDg = true → 0 ≤ valD ds ∧ valD ds < ((10 ^ n : Nat) : Int)
  | 0, ds, h, _ => by
    have : ds = [] := List.eq_nil_of_length_eq_zero h
    subst this
    decide
  | n + 1, ds, h, ha => by
    have hne : ds ≠ [] := by intro e; subst e; simp at h
    obtain ⟨l, c, rfl⟩ : ∃ l c, ds = l ++ [c] := ⟨ds.dropLast, ds.getLast hne, (List.dropLast_concat_getLast hne).symm⟩
    simp at h
    simp [isDg] at ha
    have ih := valD_bound n l h (by simp [isDg]; exact fun x hx => ha.1 x hx)
    rw [valD_snoc, Nat.pow_succ]
    have h2 := ha.2
    omega

theorem valD_le {k : Nat} {ds : List UInt8} (hk : k ≤ 17) (h : ds.length = k) (ha : ds.all isDg = true) : 0 ≤ valD ds ∧ valD ds ≤ 99999999999999999 := by
  have h1 := valD_bound k ds h ha
  have h2 : 10 ^ k ≤ 10 ^ 17 := Nat.pow_le_pow_right (by decide) hk
  have h3 : 10 ^ 17 = 100000000000000000 := by decide
  omega

theorem valD_le18 {k : Nat} {ds : List UInt8} (hk : k ≤ 18) (h : ds.length = k) (ha : ds.all isDg = true) : 0 ≤ valD ds ∧ valD ds ≤ 999999999999999999 := by
  have h1 := valD_bound k ds h ha
  have h2 : 10 ^ k ≤ 10 ^ 18 := Nat.pow_le_pow_right (by decide) hk
  have h3 : 10 ^ 18 = 1000000000000000000 := by decide
  omega

theorem ret_v {a b : Value} (h : a = b) : Ending.returned a = .returned b := by rw [h]

theorem shape_yes {c : UInt8} {r : List UInt8} (h1 : r.length < 18) (h2 : r.length = 0 ∨ ¬ c.toNat = 48) : shapeB (c :: r) = true := by
  have h3 : r.isEmpty = true ∨ (c == 48) = false := by
    rcases h2 with h | h
    · left; cases r <;> simp_all
    · right; simp; intro e; subst e; exact h rfl
  simp only [shapeB, Bool.and_eq_true, decide_eq_true_eq, Bool.or_eq_true, Bool.not_eq_true']
  exact ⟨h1, h3⟩
theorem shape_no {c : UInt8} {r : List UInt8} (h : 18 ≤ r.length ∨ (0 < r.length ∧ c.toNat = 48)) : shapeB (c :: r) = false := by
  rcases h with h | ⟨h, h'⟩
  · have : decide (r.length < 18) = false := by simp; omega
    simp [shapeB, this]
  · have e1 : r.isEmpty = false := by cases r <;> simp_all
    have e2 : c = 48 := UInt8.toNat_inj.1 h'
    simp [shapeB, e1, e2]


def smallA (ds : List UInt8) (v : Int) : Option Int := if goodB ds then some v else none
theorem smallA_yes {ds : List UInt8} {v : Int} (h : goodB ds = true) : smallA ds v = some v := by simp [smallA, h]
theorem smallA_no {ds : List UInt8} {v : Int} (h : goodB ds = false) : smallA ds v = none := by simp [smallA, h]

/-- k digits read: all of them digits. -/
def AllD (ds : List UInt8) (k : Nat) : Prop := (ds.take k).all isDg = true

theorem AllD.zero (ds : List UInt8) : AllD ds 0 := rfl
theorem AllD.next {ds : List UInt8} {k : Nat} {c : UInt8} (h : AllD ds k) (hc : ds[k]? = some c) (h1 : 48 ≤ c.toNat) (h2 : c.toNat ≤ 57) : AllD ds (k + 1) := by
  unfold AllD at *
  rw [take_snoc ds k c hc, List.all_append, h]
  simp [isDg, h1, h2]
theorem AllD.whole {ds : List UInt8} (h : AllD ds ds.length) : ds.all isDg = true := by
  unfold AllD at h
  rwa [List.take_length] at h
theorem not_all {ds : List UInt8} {k : Nat} {c : UInt8} (hc : ds[k]? = some c) (h : c.toNat < 48 ∨ 57 < c.toNat) : ds.all isDg = false := by
  rw [List.all_eq_false]
  refine ⟨c, List.mem_of_getElem? hc, ?_⟩
  simp [isDg]
  omega
theorem good_yes {c : UInt8} {r : List UInt8} (h1 : shapeB (c :: r) = true) (h : AllD (c :: r) (r.length + 1)) : goodB (c :: r) = true := by
  have := AllD.whole (ds := c :: r) (by simpa using h)
  simp only [goodB, h1, this, Bool.and_self]
theorem good_no {ds : List UInt8} (h : shapeB ds = false ∨ ds.all isDg = false) : goodB ds = false := by
  rcases h with h | h <;> simp [goodB, h]
theorem valD_take_le {ds : List UInt8} {k : Nat} (hk : k ≤ 17) (hl : k ≤ ds.length) (h : AllD ds k) : 0 ≤ valD (ds.take k) ∧ valD (ds.take k) ≤ 99999999999999999 :=
  valD_le hk (by simp; omega) h
theorem valD_take_le18 {ds : List UInt8} {k : Nat} (hk : k ≤ 18) (hl : k ≤ ds.length) (h : AllD ds k) : 0 ≤ valD (ds.take k) ∧ valD (ds.take k) ≤ 999999999999999999 :=
  valD_le18 hk (by simp; omega) h

set_option maxHeartbeats 1000000 in
/-- A token without a sign. -/
theorem smi_plain (b off cap : Nat) (c : UInt8) (r : List UInt8) (w : World)
    (hc : ∀ i d, (c :: r)[i]? = some d → w.cell? ⟨b, off + i, none⟩ = some (.int .u8 (d.toNat : Int))) (h43 : ¬ c.toNat = 43) (h45 : ¬ c.toNat = 45) (hL : r.length + 1 ≤ maxLen) :
    Calls Tryd.prog 28 #[.slice (some ⟨b, off, none⟩) (r.length + 1) cap] w fun e w' => e = .returned (smallV (smallA (c :: r) (valD (c :: r)))) ∧ w' = w := by
  unfold maxLen at hL
  have hc0 := hc 0 c rfl
  rw [Nat.add_zero] at hc0
  have HC : Hid (∀ i d, (c :: r)[i]? = some d → w.cell? ⟨b, off + i, none⟩ = some (.int .u8 (d.toNat : Int))) := hc
  have e43 : ((c.toNat : Int) == 43) = false := by simp; omega
  have e45 : ((c.toNat : Int) == 45) = false := by simp; omega
  have el0 : (((r.length : Int) + 1) == 0) = false := by simp; omega
  clear hc h43 h45
  by_cases hm : r.length < 18
  · by_cases hz : r.length = 0 ∨ ¬ c.toNat = 48
    · have hsh := shape_yes hm hz
      have hzz : ((1 : Int) < (r.length : Int) + 1 ∧ ((c.toNat : Int) == 48) = false) ∨ (r.length : Int) + 1 ≤ 1 := by
        rcases hz with h | h
        · right; omega
        · by_cases h' : r.length = 0
          · right; omega
          · left; exact ⟨by omega, by simp; omega⟩
      clear hz
      have hmi : (r.length : Int) + 1 ≤ 18 := by omega
      rcases hzz with ⟨hz1, hz2⟩ | hz1
      all_goals
        go_enter Tryd.func28, Tryd.ntmps28
        go_wp2_with fail
        go_loop [5, 42] (fun n i => ∃ k : Nat, k ≤ r.length + 1 ∧ i = .int .i64 k ∧ n = .int .i64 (valD ((c :: r).take k)) ∧ AllD (c :: r) k) (fun _ i => r.length + 1 - (intOf i).toNat)
        case atStart => exact ⟨0, Nat.zero_le _, rfl, rfl, AllD.zero _⟩
        case round =>
          obtain ⟨k, hk, rfl, rfl, hall⟩ := hrel
          by_cases hlt : k < r.length + 1
          · obtain ⟨d, hd⟩ := getElem?_of_lt (c :: r) k (by simpa using hlt)
            have hcd := HC.out k d hd
            obtain ⟨v1, v2⟩ := valD_take_le (k := k) (by omega) (by simp; omega) hall
            have hki : (k : Int) < (r.length : Int) + 1 := by omega
            have HV : Hid (valD ((c :: r).take (k + 1)) = valD ((c :: r).take k) * 10 + ((d.toNat : Int) - 48)) := by rw [take_snoc _ _ _ hd]; exact valD_snoc _ _
            have HD : Hid ((c :: r)[k]? = some d) := hd
            have hd8 : (d.toNat : Int) ≤ 255 := by have := d.toNat_lt; omega
            clear hd
            generalize valD ((c :: r).take k) = v at *
            by_cases h48 : (d.toNat : Int) < 48
            · go_wp2_with fail
              go_ret2
              exact ⟨ret_v (by rw [smallA_no (good_no (.inr (not_all HD.out (.inl (by omega)))))]; rfl), rfl⟩
            · by_cases h57 : (57 : Int) < (d.toNat : Int)
              · go_wp2_with fail
                go_ret2
                exact ⟨ret_v (by rw [smallA_no (good_no (.inr (not_all HD.out (.inr (by omega)))))]; rfl), rfl⟩
              · go_wp2_with fail
                go_round
                case rel => exact ⟨k + 1, by omega, by go_num, by rw [HV.out], hall.next HD.out (by omega) (by omega)⟩
                case measure => simp [intOf]; omega
          · have hkk : k = r.length + 1 := by omega
            subst hkk
            have hgood := good_yes hsh hall
            obtain ⟨v1, v2⟩ := valD_take_le18 (k := r.length + 1) (by omega) (by simp) hall
            have hw : (c :: r).take (r.length + 1) = c :: r := List.take_of_length_le (by simp)
            rw [hw] at v1 v2 ⊢
            have HG : Hid (goodB (c :: r) = true) := hgood
            clear hgood hw hall
            go_wp2_with fail
            go_ret2
            exact ⟨ret_v (by rw [smallA_yes HG.out]; rfl), rfl⟩
    · have hsh := shape_no (c := c) (r := r) (.inr ⟨by omega, by omega⟩)
      have hmi : (r.length : Int) + 1 ≤ 18 := by omega
      have hz1 : (1 : Int) < (r.length : Int) + 1 := by omega
      have hz2 : ((c.toNat : Int) == 48) = true := by simp; omega
      clear hz
      go_enter Tryd.func28, Tryd.ntmps28
      go_wp2_with fail
      go_ret2
      exact ⟨ret_v (by rw [smallA_no (good_no (.inl hsh))]; rfl), rfl⟩
  · have hsh := shape_no (c := c) (r := r) (.inl (by omega))
    have hmi : (18 : Int) < (r.length : Int) + 1 := by omega
    go_enter Tryd.func28, Tryd.ntmps28
    go_wp2_with fail
    go_ret2
    exact ⟨ret_v (by rw [smallA_no (good_no (.inl hsh))]; rfl), rfl⟩

set_option maxHeartbeats 1000000 in
/-- A sign and something behind it. -/
theorem smi_plus (b off cap : Nat) (c : UInt8) (r : List UInt8) (w : World) (hs : w.cell? ⟨b, off, none⟩ = some (.int .u8 43))
    (hc : ∀ i d, (c :: r)[i]? = some d → w.cell? ⟨b, off + 1 + i, none⟩ = some (.int .u8 (d.toNat : Int))) (hL : r.length + 2 ≤ maxLen) (hcap : r.length + 2 ≤ cap) :
    Calls Tryd.prog 28 #[.slice (some ⟨b, off, none⟩) (r.length + 2) cap] w fun e w' => e = .returned (smallV (smallA (c :: r) (valD (c :: r)))) ∧ w' = w := by
  unfold maxLen at hL
  have hc0 := hc 0 c rfl
  rw [Nat.add_zero] at hc0
  have HC : Hid (∀ i d, (c :: r)[i]? = some d → w.cell? ⟨b, off + 1 + i, none⟩ = some (.int .u8 (d.toNat : Int))) := hc
  have hcc : ¬ cap = 1 := by omega
  have el0 : (((r.length : Int) + 1) == 0) = false := by simp; omega
  clear hc
  by_cases hm : r.length < 18
  · by_cases hz : r.length = 0 ∨ ¬ c.toNat = 48
    · have hsh := shape_yes hm hz
      have hzz : ((1 : Int) < (r.length : Int) + 1 ∧ ((c.toNat : Int) == 48) = false) ∨ (r.length : Int) + 1 ≤ 1 := by
        rcases hz with h | h
        · right; omega
        · by_cases h' : r.length = 0
          · right; omega
          · left; exact ⟨by omega, by simp; omega⟩
      clear hz
      have hmi : (r.length : Int) + 1 ≤ 18 := by omega
      rcases hzz with ⟨hz1, hz2⟩ | hz1
      all_goals
        go_enter Tryd.func28, Tryd.ntmps28
        go_wp2_with fail
        go_loop [5, 42] (fun n i => ∃ k : Nat, k ≤ r.length + 1 ∧ i = .int .i64 k ∧ n = .int .i64 (valD ((c :: r).take k)) ∧ AllD (c :: r) k) (fun _ i => r.length + 1 - (intOf i).toNat)
        case atStart => exact ⟨0, Nat.zero_le _, rfl, rfl, AllD.zero _⟩
        case round =>
          obtain ⟨k, hk, rfl, rfl, hall⟩ := hrel
          by_cases hlt : k < r.length + 1
          · obtain ⟨d, hd⟩ := getElem?_of_lt (c :: r) k (by simpa using hlt)
            have hcd := HC.out k d hd
            obtain ⟨v1, v2⟩ := valD_take_le (k := k) (by omega) (by simp; omega) hall
            have hki : (k : Int) < (r.length : Int) + 1 := by omega
            have HV : Hid (valD ((c :: r).take (k + 1)) = valD ((c :: r).take k) * 10 + ((d.toNat : Int) - 48)) := by rw [take_snoc _ _ _ hd]; exact valD_snoc _ _
            have HD : Hid ((c :: r)[k]? = some d) := hd
            have hd8 : (d.toNat : Int) ≤ 255 := by have := d.toNat_lt; omega
            clear hd
            generalize valD ((c :: r).take k) = v at *
            by_cases h48 : (d.toNat : Int) < 48
            · go_wp2_with fail
              go_ret2
              exact ⟨ret_v (by rw [smallA_no (good_no (.inr (not_all HD.out (.inl (by omega)))))]; rfl), rfl⟩
            · by_cases h57 : (57 : Int) < (d.toNat : Int)
              · go_wp2_with fail
                go_ret2
                exact ⟨ret_v (by rw [smallA_no (good_no (.inr (not_all HD.out (.inr (by omega)))))]; rfl), rfl⟩
              · go_wp2_with fail
                go_round
                case rel => exact ⟨k + 1, by omega, by go_num, by rw [HV.out], hall.next HD.out (by omega) (by omega)⟩
                case measure => simp [intOf]; omega
          · have hkk : k = r.length + 1 := by omega
            subst hkk
            have hgood := good_yes hsh hall
            obtain ⟨v1, v2⟩ := valD_take_le18 (k := r.length + 1) (by omega) (by simp) hall
            have hw : (c :: r).take (r.length + 1) = c :: r := List.take_of_length_le (by simp)
            rw [hw] at v1 v2 ⊢
            have HG : Hid (goodB (c :: r) = true) := hgood
            clear hgood hw hall
            go_wp2_with fail
            go_ret2
            exact ⟨ret_v (by rw [smallA_yes HG.out]; rfl), rfl⟩
    · have hsh := shape_no (c := c) (r := r) (.inr ⟨by omega, by omega⟩)
      have hmi : (r.length : Int) + 1 ≤ 18 := by omega
      have hz1 : (1 : Int) < (r.length : Int) + 1 := by omega
      have hz2 : ((c.toNat : Int) == 48) = true := by simp; omega
      clear hz
      go_enter Tryd.func28, Tryd.ntmps28
      go_wp2_with fail
      go_ret2
      exact ⟨ret_v (by rw [smallA_no (good_no (.inl hsh))]; rfl), rfl⟩
  · have hsh := shape_no (c := c) (r := r) (.inl (by omega))
    have hmi : (18 : Int) < (r.length : Int) + 1 := by omega
    go_enter Tryd.func28, Tryd.ntmps28
    go_wp2_with fail
    go_ret2
    exact ⟨ret_v (by rw [smallA_no (good_no (.inl hsh))]; rfl), rfl⟩

set_option maxHeartbeats 1000000 in
/-- A sign and something behind it. -/
theorem smi_minus (b off cap : Nat) (c : UInt8) (r : List UInt8) (w : World) (hs : w.cell? ⟨b, off, none⟩ = some (.int .u8 45))
    (hc : ∀ i d, (c :: r)[i]? = some d → w.cell? ⟨b, off + 1 + i, none⟩ = some (.int .u8 (d.toNat : Int))) (hL : r.length + 2 ≤ maxLen) (hcap : r.length + 2 ≤ cap) :
    Calls Tryd.prog 28 #[.slice (some ⟨b, off, none⟩) (r.length + 2) cap] w fun e w' => e = .returned (smallV (smallA (c :: r) (-valD (c :: r)))) ∧ w' = w := by
  unfold maxLen at hL
  have hc0 := hc 0 c rfl
  rw [Nat.add_zero] at hc0
  have HC : Hid (∀ i d, (c :: r)[i]? = some d → w.cell? ⟨b, off + 1 + i, none⟩ = some (.int .u8 (d.toNat : Int))) := hc
  have hcc : ¬ cap = 1 := by omega
  have el0 : (((r.length : Int) + 1) == 0) = false := by simp; omega
  clear hc
  by_cases hm : r.length < 18
  · by_cases hz : r.length = 0 ∨ ¬ c.toNat = 48
    · have hsh := shape_yes hm hz
      have hzz : ((1 : Int) < (r.length : Int) + 1 ∧ ((c.toNat : Int) == 48) = false) ∨ (r.length : Int) + 1 ≤ 1 := by
        rcases hz with h | h
        · right; omega
        · by_cases h' : r.length = 0
          · right; omega
          · left; exact ⟨by omega, by simp; omega⟩
      clear hz
      have hmi : (r.length : Int) + 1 ≤ 18 := by omega
      rcases hzz with ⟨hz1, hz2⟩ | hz1
      all_goals
        go_enter Tryd.func28, Tryd.ntmps28
        go_wp2_with fail
        go_loop [5, 42] (fun n i => ∃ k : Nat, k ≤ r.length + 1 ∧ i = .int .i64 k ∧ n = .int .i64 (valD ((c :: r).take k)) ∧ AllD (c :: r) k) (fun _ i => r.length + 1 - (intOf i).toNat)
        case atStart => exact ⟨0, Nat.zero_le _, rfl, rfl, AllD.zero _⟩
        case round =>
          obtain ⟨k, hk, rfl, rfl, hall⟩ := hrel
          by_cases hlt : k < r.length + 1
          · obtain ⟨d, hd⟩ := getElem?_of_lt (c :: r) k (by simpa using hlt)
            have hcd := HC.out k d hd
            obtain ⟨v1, v2⟩ := valD_take_le (k := k) (by omega) (by simp; omega) hall
            have hki : (k : Int) < (r.length : Int) + 1 := by omega
            have HV : Hid (valD ((c :: r).take (k + 1)) = valD ((c :: r).take k) * 10 + ((d.toNat : Int) - 48)) := by rw [take_snoc _ _ _ hd]; exact valD_snoc _ _
            have HD : Hid ((c :: r)[k]? = some d) := hd
            have hd8 : (d.toNat : Int) ≤ 255 := by have := d.toNat_lt; omega
            clear hd
            generalize valD ((c :: r).take k) = v at *
            by_cases h48 : (d.toNat : Int) < 48
            · go_wp2_with fail
              go_ret2
              exact ⟨ret_v (by rw [smallA_no (good_no (.inr (not_all HD.out (.inl (by omega)))))]; rfl), rfl⟩
            · by_cases h57 : (57 : Int) < (d.toNat : Int)
              · go_wp2_with fail
                go_ret2
                exact ⟨ret_v (by rw [smallA_no (good_no (.inr (not_all HD.out (.inr (by omega)))))]; rfl), rfl⟩
              · go_wp2_with fail
                go_round
                case rel => exact ⟨k + 1, by omega, by go_num, by rw [HV.out], hall.next HD.out (by omega) (by omega)⟩
                case measure => simp [intOf]; omega
          · have hkk : k = r.length + 1 := by omega
            subst hkk
            have hgood := good_yes hsh hall
            obtain ⟨v1, v2⟩ := valD_take_le18 (k := r.length + 1) (by omega) (by simp) hall
            have hw : (c :: r).take (r.length + 1) = c :: r := List.take_of_length_le (by simp)
            rw [hw] at v1 v2 ⊢
            have HG : Hid (goodB (c :: r) = true) := hgood
            clear hgood hw hall
            go_wp2_with fail
            go_ret2
            exact ⟨ret_v (by rw [smallA_yes HG.out]; rfl), rfl⟩
    · have hsh := shape_no (c := c) (r := r) (.inr ⟨by omega, by omega⟩)
      have hmi : (r.length : Int) + 1 ≤ 18 := by omega
      have hz1 : (1 : Int) < (r.length : Int) + 1 := by omega
      have hz2 : ((c.toNat : Int) == 48) = true := by simp; omega
      clear hz
      go_enter Tryd.func28, Tryd.ntmps28
      go_wp2_with fail
      go_ret2
      exact ⟨ret_v (by rw [smallA_no (good_no (.inl hsh))]; rfl), rfl⟩
  · have hsh := shape_no (c := c) (r := r) (.inl (by omega))
    have hmi : (18 : Int) < (r.length : Int) + 1 := by omega
    go_enter Tryd.func28, Tryd.ntmps28
    go_wp2_with fail
    go_ret2
    exact ⟨ret_v (by rw [smallA_no (good_no (.inl hsh))]; rfl), rfl⟩

set_option maxHeartbeats 400000 in
/-- A sign alone. -/
theorem smi_plus_lone (b off cap : Nat) (w : World) (hs : w.cell? ⟨b, off, none⟩ = some (.int .u8 43)) :
    Calls Tryd.prog 28 #[.slice (some ⟨b, off, none⟩) 1 cap] w fun e w' => e = .returned (smallV none) ∧ w' = w := by
  by_cases hcc : cap = 1
  · subst hcc
    go_enter Tryd.func28, Tryd.ntmps28
    go_wp2_with fail
    go_ret2
    exact ⟨rfl, rfl⟩
  · go_enter Tryd.func28, Tryd.ntmps28
    go_wp2_with fail
    go_ret2
    exact ⟨rfl, rfl⟩

set_option maxHeartbeats 400000 in
/-- A sign alone. -/
theorem smi_minus_lone (b off cap : Nat) (w : World) (hs : w.cell? ⟨b, off, none⟩ = some (.int .u8 45)) :
    Calls Tryd.prog 28 #[.slice (some ⟨b, off, none⟩) 1 cap] w fun e w' => e = .returned (smallV none) ∧ w' = w := by
  by_cases hcc : cap = 1
  · subst hcc
    go_enter Tryd.func28, Tryd.ntmps28
    go_wp2_with fail
    go_ret2
    exact ⟨rfl, rfl⟩
  · go_enter Tryd.func28, Tryd.ntmps28
    go_wp2_with fail
    go_ret2
    exact ⟨rfl, rfl⟩

end Go.Proofs.Qxb6001227aDoor
