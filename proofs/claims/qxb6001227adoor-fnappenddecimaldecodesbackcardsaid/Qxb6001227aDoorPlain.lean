/-
  THE PLAIN LAWS: smallInt's reading of a decimal numeral, and the numeral of what it reads. No Go in sight.
-/
import Derived.Test.Qxb6001227aDoorSmall
import Derived.Lib.ItoaNum
import Derived.Lib.ItoaLen
import Derived.Lib.ItoaWalk
namespace Go.Proofs.Qxb6001227aDoor

theorem dd_small {u : Nat} (h : u < 10) : Lib.decDigits u = [UInt8.ofNat (48 + u)] := Lib.decDigits_one h
theorem dd_big {u : Nat} (h : ¬ u < 10) : Lib.decDigits u = Lib.decDigits (u / 10) ++ [UInt8.ofNat (48 + u % 10)] := by rw [Lib.decDigits, dif_neg h]

theorem dgb (d : Nat) (h : d < 10) : (UInt8.ofNat (48 + d)).toNat = 48 + d := by
  rw [UInt8.toNat_ofNat']
  omega

theorem dd_all (u : Nat) : (Lib.decDigits u).all isDg = true := by
  induction u using Nat.strongRecOn with
  | ind u ih =>
    by_cases h : u < 10
    · rw [dd_small h]
      simp only [List.all_cons, List.all_nil, Bool.and_true, isDg, dgb u h]
      simp
      omega
    · rw [dd_big h, List.all_append, ih (u / 10) (by omega)]
      simp only [List.all_cons, List.all_nil, Bool.and_true, isDg, dgb (u % 10) (by omega)]
      simp
      omega

theorem dd_val (u : Nat) : valD (Lib.decDigits u) = (u : Int) := by
  induction u using Nat.strongRecOn with
  | ind u ih =>
    by_cases h : u < 10
    · rw [dd_small h]
      simp only [valD, List.foldl_cons, List.foldl_nil, dgb u h]
      omega
    · rw [dd_big h, valD_snoc, ih (u / 10) (by omega), dgb (u % 10) (by omega)]
      omega

/-- The first digit of a number that is not 0 is no 0. -/
theorem dd_head (u : Nat) : ∃ c r, Lib.decDigits u = c :: r ∧ (1 ≤ u → ¬ c.toNat = 48) := by
  induction u using Nat.strongRecOn with
  | ind u ih =>
    by_cases h : u < 10
    · exact ⟨_, [], dd_small h, fun h1 => by rw [dgb u h]; omega⟩
    · obtain ⟨c, r, e, hc⟩ := ih (u / 10) (by omega)
      exact ⟨c, r ++ [UInt8.ofNat (48 + u % 10)], by rw [dd_big h, e]; rfl, fun _ => hc (by omega)⟩

theorem nd_le : ∀ (k u : Nat), u < 10 ^ (k + 1) → Lib.nDigits u ≤ k + 1
  | 0, u, h => by rw [Lib.nDigits_small (by simpa using h)]; omega
  | k + 1, u, h => by
    by_cases h10 : u < 10
    · rw [Lib.nDigits_small h10]; omega
    · rw [Lib.nDigits_big h10]
      have := nd_le k (u / 10) (by rw [Nat.pow_succ] at h; omega)
      omega

theorem dd_len_le {u : Nat} (h : u < 1000000000000000000) : (Lib.decDigits u).length ≤ 18 := by
  rw [Lib.decDigits_length]
  exact nd_le 17 u (by have : 10 ^ 18 = 1000000000000000000 := by decide
                       omega)
theorem dd_len_gt {u : Nat} (h : 1000000000000000000 ≤ u) : 18 < (Lib.decDigits u).length := by
  rw [Lib.decDigits_length]
  have h1 := Lib.lt_pow_nDigits u
  rcases Nat.lt_or_ge 18 (Lib.nDigits u) with h2 | h2
  · exact h2
  · have h3 : 10 ^ Lib.nDigits u ≤ 10 ^ 18 := Nat.pow_le_pow_right (by decide) h2
    have h4 : 10 ^ 18 = 1000000000000000000 := by decide
    omega

theorem dd_good {u : Nat} (h : u < 1000000000000000000) : goodB (Lib.decDigits u) = true := by
  obtain ⟨c, r, e, hc⟩ := dd_head u
  have hl := dd_len_le h
  have ha := dd_all u
  have hv := dd_val u
  rw [e] at hl ha hv ⊢
  have hs : shapeB (c :: r) = true := by
    refine shape_yes (by simp at hl; omega) ?_
    by_cases h1 : 1 ≤ u
    · exact .inr (hc h1)
    · have : u = 0 := by omega
      subst this
      rw [dd_small (by omega)] at e
      injection e with _ e
      left; rw [← e]; rfl
  rw [goodB, hs, ha]; rfl
theorem dd_bad {u : Nat} (h : 1000000000000000000 ≤ u) : goodB (Lib.decDigits u) = false := by
  obtain ⟨c, r, e, hc⟩ := dd_head u
  have hl := dd_len_gt h
  rw [e] at hl ⊢
  exact good_no (.inl (shape_no (.inl (by simp at hl; omega))))

theorem smallI_plain {c : UInt8} {r : List UInt8} (h : isDg c = true) : smallI (c :: r) = if goodB (c :: r) then some (valD (c :: r)) else none := by
  have h1 : ¬ c = 43 := by rintro rfl; exact absurd h (by decide)
  have h2 : ¬ c = 45 := by rintro rfl; exact absurd h (by decide)
  simp [smallI, h1, h2]

/-- smallInt reads the numeral of a number of at most eighteen digits. -/
theorem smallI_itoa {x : Int} (h1 : -1000000000000000000 < x) (h2 : x < 1000000000000000000) : smallI (Lib.itoa x) = some x := by
  by_cases hn : x < 0
  · obtain ⟨u, rfl⟩ : ∃ u : Nat, x = -(u : Int) := ⟨x.natAbs, by omega⟩
    rw [Lib.itoa_neg u (by omega)]
    have hg := dd_good (u := u) (by omega)
    have hv := dd_val u
    have : smallI (45 :: Lib.decDigits u) = if goodB (Lib.decDigits u) then some (-valD (Lib.decDigits u)) else none := by simp [smallI]
    rw [this, hg, hv]; rfl
  · obtain ⟨u, rfl⟩ : ∃ u : Nat, x = (u : Int) := ⟨x.toNat, by omega⟩
    rw [Lib.itoa_nonneg]
    have hg := dd_good (u := u) (by omega)
    have hv := dd_val u
    have ha := dd_all u
    obtain ⟨c, r, e, _⟩ := dd_head u
    rw [e] at hg hv ha ⊢
    rw [smallI_plain (by simp at ha; exact ha.1), hg, hv]; rfl
/-- .. and refuses every longer one. -/
theorem smallI_itoa_no {x : Int} (h : x ≤ -1000000000000000000 ∨ 1000000000000000000 ≤ x) : smallI (Lib.itoa x) = none := by
  by_cases hn : x < 0
  · obtain ⟨u, rfl⟩ : ∃ u : Nat, x = -(u : Int) := ⟨x.natAbs, by omega⟩
    rw [Lib.itoa_neg u (by omega)]
    have hg := dd_bad (u := u) (by omega)
    have : smallI (45 :: Lib.decDigits u) = if goodB (Lib.decDigits u) then some (-valD (Lib.decDigits u)) else none := by simp [smallI]
    rw [this, hg]; rfl
  · obtain ⟨u, rfl⟩ : ∃ u : Nat, x = (u : Int) := ⟨x.toNat, by omega⟩
    rw [Lib.itoa_nonneg]
    have hg := dd_bad (u := u) (by omega)
    have ha := dd_all u
    obtain ⟨c, r, e, _⟩ := dd_head u
    rw [e] at hg ha ⊢
    rw [smallI_plain (by simp at ha; exact ha.1), hg]; rfl

theorem itoa_ne (x : Int) : 1 ≤ (Lib.itoa x).length := by
  by_cases hn : x < 0
  · obtain ⟨u, rfl⟩ : ∃ u : Nat, x = -(u : Int) := ⟨x.natAbs, by omega⟩
    rw [Lib.itoa_neg u (by omega)]; simp
  · obtain ⟨u, rfl⟩ : ∃ u : Nat, x = (u : Int) := ⟨x.toNat, by omega⟩
    rw [Lib.itoa_nonneg, Lib.decDigits_length]
    exact Lib.nDigits_pos u

end Go.Proofs.Qxb6001227aDoor
