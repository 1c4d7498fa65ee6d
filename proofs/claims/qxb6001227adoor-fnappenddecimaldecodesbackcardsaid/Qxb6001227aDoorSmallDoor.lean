/-
  smallInt AND ZZSmallInt AT EVERY TOKEN THAT IS NOT EMPTY.
-/
import Derived.Test.Qxb6001227aDoorSmall
namespace Go.Proofs.Qxb6001227aDoor
open Go.RowKit

theorem smi_any (b off cap : Nat) (bs : List UInt8) (w : World) (hc : ∀ i d, bs[i]? = some d → w.cell? ⟨b, off + i, none⟩ = some (.int .u8 (d.toNat : Int)))
    (h1 : 1 ≤ bs.length) (hL : bs.length ≤ maxLen) (hcap : bs.length ≤ cap) :
    Calls Tryd.prog 28 #[.slice (some ⟨b, off, none⟩) bs.length cap] w fun e w' => e = .returned (smallV (smallI bs)) ∧ w' = w := by
  match bs, h1 with
  | c :: r, _ =>
    have hc0 := hc 0 c rfl
    rw [Nat.add_zero] at hc0
    have hct : ∀ i d, r[i]? = some d → w.cell? ⟨b, off + 1 + i, none⟩ = some (.int .u8 (d.toNat : Int)) := by
      intro i d hd
      have := hc (i + 1) d (by simpa using hd)
      rwa [show off + (i + 1) = off + 1 + i by omega] at this
    by_cases h43 : c = 43
    · subst h43
      cases r with
      | nil =>
        have e : smallI [43] = none := by decide
        rw [e]
        exact smi_plus_lone b off cap w hc0
      | cons d r =>
        have e : smallI (43 :: d :: r) = smallA (d :: r) (valD (d :: r)) := by simp [smallI, smallA]
        rw [e]
        exact smi_plus b off cap d r w hc0 hct (by simpa using hL) (by simpa using hcap)
    · by_cases h45 : c = 45
      · subst h45
        cases r with
        | nil =>
          have e : smallI [45] = none := by decide
          rw [e]
          exact smi_minus_lone b off cap w hc0
        | cons d r =>
          have e : smallI (45 :: d :: r) = smallA (d :: r) (-valD (d :: r)) := by simp [smallI, smallA]
          rw [e]
          exact smi_minus b off cap d r w hc0 hct (by simpa using hL) (by simpa using hcap)
      · have e : smallI (c :: r) = smallA (c :: r) (valD (c :: r)) := by simp [smallI, smallA, h43, h45]
        rw [e]
        exact smi_plain b off cap c r w hc (fun h => h43 (UInt8.toNat_inj.1 h)) (fun h => h45 (UInt8.toNat_inj.1 h)) (by simpa using hL)

set_option maxHeartbeats 400000 in
theorem zsm_any (b off cap : Nat) (bs : List UInt8) (w : World) (hc : ∀ i d, bs[i]? = some d → w.cell? ⟨b, off + i, none⟩ = some (.int .u8 (d.toNat : Int)))
    (h1 : 1 ≤ bs.length) (hL : bs.length ≤ maxLen) (hcap : bs.length ≤ cap) :
    Calls Tryd.prog 19 #[.slice (some ⟨b, off, none⟩) bs.length cap] w fun e w' => e = .returned (smallV (smallI bs)) ∧ w' = w := by
  have HC : Hid (∀ i d, bs[i]? = some d → w.cell? ⟨b, off + i, none⟩ = some (.int .u8 (d.toNat : Int))) := hc
  have H1 : Hid (1 ≤ bs.length ∧ bs.length ≤ maxLen ∧ bs.length ≤ cap) := ⟨h1, hL, hcap⟩
  clear hc h1 hL hcap
  cases hs : smallI bs with
  | none =>
    have HS : Hid (smallI bs = none) := hs
    clear hs
    go_enter Tryd.func19, Tryd.ntmps19
    go_wp2_with fail
    refine (smi_any b off cap bs w HC.out H1.out.1 H1.out.2.1 H1.out.2.2).mono ?_
    rintro e w' ⟨he, hw⟩; subst w'
    rw [HS.out] at he
    subst he
    unfold smallV
    go_wp2_with fail
    go_ret2
    exact ⟨rfl, rfl⟩
  | some v =>
    have HS : Hid (smallI bs = some v) := hs
    clear hs
    go_enter Tryd.func19, Tryd.ntmps19
    go_wp2_with fail
    refine (smi_any b off cap bs w HC.out H1.out.1 H1.out.2.1 H1.out.2.2).mono ?_
    rintro e w' ⟨he, hw⟩; subst w'
    rw [HS.out] at he
    subst he
    unfold smallV
    go_wp2_with fail
    go_ret2
    exact ⟨rfl, rfl⟩

end Go.Proofs.Qxb6001227aDoor
