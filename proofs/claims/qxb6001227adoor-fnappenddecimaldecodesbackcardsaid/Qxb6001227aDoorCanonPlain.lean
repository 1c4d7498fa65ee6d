/-
  THE PLAIN LAW: whatever smallInt accepts is the numeral of what it reads, but for a leading '+' and the spelling -0. No Go in sight.
-/
import Derived.Test.Qxb6001227aDoorPlain
namespace Go.Proofs.Qxb6001227aDoor

theorem ofNat_dg {c : UInt8} (h1 : 48 ≤ c.toNat) : UInt8.ofNat (48 + (c.toNat - 48)) = c := by
  apply UInt8.toNat_inj.1
  rw [UInt8.toNat_ofNat']
  have := c.toNat_lt
  omega

theorem dg_bounds {c : UInt8} (h : isDg c = true) : 48 ≤ c.toNat ∧ c.toNat ≤ 57 := by
  simpa [isDg] using h

theorem valD_one (c : UInt8) : valD [c] = (c.toNat : Int) - 48 := by simp [valD]

theorem dd_back : ∀ (n : Nat) (c : UInt8) (r : List UInt8), r.length = n → (c :: r).all isDg = true → ¬ c.toNat = 48 → 1 ≤ valD (c :: r) ∧ Lib.decDigits (valD (c :: r)).toNat = c :: r
  | 0, c, r, hl, ha, h48 => by
    obtain rfl : r = [] := List.eq_nil_of_length_eq_zero hl
    obtain ⟨h1, h2⟩ := dg_bounds (by simpa using ha : isDg c = true)
    rw [valD_one]
    refine ⟨by omega, ?_⟩
    have e : ((c.toNat : Int) - 48).toNat = c.toNat - 48 := by omega
    rw [e, dd_small (by omega), ofNat_dg h1]
  | n + 1, c, r, hl, ha, h48 => by
    have hne : r ≠ [] := by intro e; subst e; simp at hl
    obtain ⟨l, d, rfl⟩ : ∃ l d, r = l ++ [d] := ⟨r.dropLast, r.getLast hne, (List.dropLast_concat_getLast hne).symm⟩
    have hl' : l.length = n := by simp at hl; omega
    have e1 : c :: (l ++ [d]) = (c :: l) ++ [d] := rfl
    rw [e1, List.all_append, Bool.and_eq_true] at ha
    obtain ⟨ha1, ha2⟩ := ha
    obtain ⟨h1, h2⟩ := dg_bounds (by simpa using ha2 : isDg d = true)
    obtain ⟨hv, hd⟩ := dd_back n c l hl' ha1 h48
    rw [e1, valD_snoc]
    refine ⟨by omega, ?_⟩
    obtain ⟨u, hu⟩ : ∃ u : Nat, valD (c :: l) = (u : Int) := ⟨(valD (c :: l)).toNat, by omega⟩
    rw [hu] at hd hv ⊢
    have e2 : ((u : Int) * 10 + ((d.toNat : Int) - 48)).toNat = u * 10 + (d.toNat - 48) := by omega
    rw [e2, dd_big (by omega)]
    have e3 : (u * 10 + (d.toNat - 48)) / 10 = u := by omega
    have e4 : (u * 10 + (d.toNat - 48)) % 10 = d.toNat - 48 := by omega
    rw [e3, e4, ofNat_dg h1]
    simp only [Int.toNat_natCast] at hd
    rw [hd]

theorem good_parts {c : UInt8} {r : List UInt8} (h : goodB (c :: r) = true) : r.length < 18 ∧ (r = [] ∨ ¬ c.toNat = 48) ∧ (c :: r).all isDg = true := by
  simp only [goodB, shapeB, Bool.and_eq_true, decide_eq_true_eq, Bool.or_eq_true, Bool.not_eq_true'] at h
  obtain ⟨⟨h1, h2⟩, h3⟩ := h
  refine ⟨h1, ?_, h3⟩
  rcases h2 with h2 | h2
  · left; simpa using h2
  · right
    intro e
    have : c = 48 := UInt8.toNat_inj.1 e
    subst this
    simp at h2

/-- A good run of digits is its number's numeral. -/
theorem good_back {c : UInt8} {r : List UInt8} (h : goodB (c :: r) = true) : 0 ≤ valD (c :: r) ∧ valD (c :: r) ≤ 999999999999999999 ∧ Lib.decDigits (valD (c :: r)).toNat = c :: r ∧ (valD (c :: r) = 0 → c = 48 ∧ r = []) ∧ isDg c = true := by
  obtain ⟨h1, h2, h3⟩ := good_parts h
  have hb := valD_le18 (k := r.length + 1) (by omega) (by simp) h3
  have hc : isDg c = true := by simp at h3; exact h3.1
  refine ⟨hb.1, hb.2, ?_, ?_, hc⟩
  · by_cases h48 : c.toNat = 48
    · have : c = 48 := UInt8.toNat_inj.1 h48
      subst this
      rcases h2 with rfl | h2
      · have e : (valD [48]).toNat = 0 := by decide
        rw [e, dd_small (by omega)]
        rfl
      · exact absurd rfl h2
    · exact (dd_back _ c r rfl h3 h48).2
  · intro h0
    by_cases h48 : c.toNat = 48
    · rcases h2 with rfl | h2
      · exact ⟨UInt8.toNat_inj.1 h48, rfl⟩
      · exact absurd h48 h2
    · have := (dd_back _ c r rfl h3 h48).1
      omega

/-- What an accepted token looks like, and the numeral of what it says. -/
theorem small_cases {bs : List UInt8} {v : Int} (h : smallI bs = some v) : (-1000000000000000000 < v ∧ v < 1000000000000000000) ∧
    ((∃ c r, bs = 43 :: c :: r ∧ isDg c = true ∧ Lib.itoa v = c :: r) ∨ (bs = [45, 48] ∧ Lib.itoa v = [48]) ∨
     (∃ c r, bs = 45 :: c :: r ∧ (¬ r = [] ∨ ¬ c.toNat = 48) ∧ Lib.itoa v = 45 :: c :: r) ∨ (∃ c r, bs = c :: r ∧ isDg c = true ∧ Lib.itoa v = c :: r)) := by
  match bs, h with
  | c :: r, h =>
    by_cases h43 : c = 43
    · subst h43
      cases r with
      | nil => simp [smallI, goodB, shapeB] at h
      | cons d r =>
        by_cases hg : goodB (d :: r) = true
        · have e : smallI (43 :: d :: r) = some (valD (d :: r)) := by simp [smallI, hg]
          rw [e] at h
          injection h with h
          obtain ⟨b1, b2, b3, b4, b5⟩ := good_back hg
          refine ⟨by omega, .inl ⟨d, r, rfl, b5, ?_⟩⟩
          obtain ⟨u, hu⟩ : ∃ u : Nat, valD (d :: r) = (u : Int) := ⟨(valD (d :: r)).toNat, by omega⟩
          rw [← h, hu, Lib.itoa_nonneg]
          rw [hu, Int.toNat_natCast] at b3
          exact b3
        · have e : smallI (43 :: d :: r) = none := by simp [smallI, hg]
          rw [e] at h; cases h
    · by_cases h45 : c = 45
      · subst h45
        cases r with
        | nil => simp [smallI, goodB, shapeB] at h
        | cons d r =>
          by_cases hg : goodB (d :: r) = true
          · have e : smallI (45 :: d :: r) = some (-valD (d :: r)) := by simp [smallI, hg]
            rw [e] at h
            injection h with h
            obtain ⟨b1, b2, b3, b4, b5⟩ := good_back hg
            refine ⟨by omega, .inr ?_⟩
            by_cases h0 : valD (d :: r) = 0
            · obtain ⟨rfl, rfl⟩ := b4 h0
              refine .inl ⟨rfl, ?_⟩
              have e : (-(0 : Int)) = ((0 : Nat) : Int) := rfl
              rw [← h, h0, e, Lib.itoa_nonneg, dd_small (by omega)]
              rfl
            · refine .inr (.inl ⟨d, r, rfl, ?_, ?_⟩)
              · by_cases hr : r = []
                · right
                  intro hd
                  subst hr
                  rw [valD_one] at h0
                  omega
                · exact .inl hr
              · obtain ⟨u, hu⟩ : ∃ u : Nat, valD (d :: r) = (u : Int) := ⟨(valD (d :: r)).toNat, by omega⟩
                rw [← h, hu, Lib.itoa_neg u (by omega)]
                rw [hu, Int.toNat_natCast] at b3
                rw [b3]
          · have e : smallI (45 :: d :: r) = none := by simp [smallI, hg]
            rw [e] at h; cases h
      · by_cases hg : goodB (c :: r) = true
        · have e : smallI (c :: r) = some (valD (c :: r)) := by simp [smallI, h43, h45, hg]
          rw [e] at h
          injection h with h
          obtain ⟨b1, b2, b3, b4, b5⟩ := good_back hg
          refine ⟨by omega, .inr (.inr (.inr ⟨c, r, rfl, b5, ?_⟩))⟩
          obtain ⟨u, hu⟩ : ∃ u : Nat, valD (c :: r) = (u : Int) := ⟨(valD (c :: r)).toNat, by omega⟩
          rw [← h, hu, Lib.itoa_nonneg]
          rw [hu, Int.toNat_natCast] at b3
          exact b3
        · have e : smallI (c :: r) = none := by simp [smallI, h43, h45, hg]
          rw [e] at h; cases h

end Go.Proofs.Qxb6001227aDoor
