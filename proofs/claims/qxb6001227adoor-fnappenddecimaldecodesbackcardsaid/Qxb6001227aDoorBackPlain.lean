/-
  THE PLAIN LAW OF FnAppendIntsReadsBack: where the numbers' text is cut.
-/
import Derived.Test.Qxb6001227aDoorInts
import Derived.Test.Qxb6001227aDoorPlain
namespace Go.Proofs.Qxb6001227aDoor
open Go.RowKit

theorem joinI_cons (nt x : Int) (r : List Int) (h : r ≠ []) : joinI nt (x :: r) = Lib.itoa x ++ (sepOf nt ++ joinI nt r) := by
  cases r with
  | nil => exact absurd rfl h
  | cons y r => simp [joinI]

/-- No byte of a number is the separator's first. -/
theorem itoa_bytes {x : Int} {c : UInt8} (h : c ∈ Lib.itoa x) : ¬ c.toNat = 44 ∧ ¬ c.toNat = 32 := by
  have hd : ∀ u, c ∈ Lib.decDigits u → ¬ c.toNat = 44 ∧ ¬ c.toNat = 32 := by
    intro u hu
    have := List.all_eq_true.1 (dd_all u) c hu
    unfold isDg at this
    simp at this
    omega
  unfold Lib.itoa at h
  split at h
  · rcases List.mem_cons.1 h with rfl | h
    · decide
    · exact hd _ h
  · exact hd _ h

/-- The separator's first byte. -/
def sep0 (nt : Int) : UInt8 := if nt = 1 then 44 else 32
theorem sep0_at (nt : Int) : (sepOf nt)[0]? = some (sep0 nt) := by
  unfold sepOf sep0; split <;> rfl
theorem sep0_ne {nt x : Int} {c : UInt8} (h : c ∈ Lib.itoa x) : ¬ c.toNat = (sep0 nt).toNat := by
  have := itoa_bytes h
  unfold sep0
  split
  · exact this.1
  · exact this.2

/-- Number k's text stands at p in T. -/
structure At (nt : Int) (zs : List Int) (T : List UInt8) (k p : Nat) : Prop where
  lt : k < zs.length
  le : p ≤ T.length
  drop : T.drop p = joinI nt (zs.drop k)

theorem At.first {nt : Int} {zs : List Int} (h : zs ≠ []) : At nt zs (joinI nt zs) 0 0 :=
  ⟨List.length_pos_iff.2 h, Nat.zero_le _, by simp⟩

theorem at_drop {T A R : List UInt8} {p : Nat} (h : T.drop p = A ++ R) (hp : p ≤ T.length) : (∀ (i : Nat) c, A[i]? = some c → T[p + i]? = some c) ∧ p + A.length + R.length = T.length ∧ T.drop (p + A.length) = R := by
  have hl := congrArg List.length h
  simp at hl
  refine ⟨fun i c hc => ?_, by omega, ?_⟩
  · have hi := (List.getElem?_eq_some_iff.1 hc).1
    rw [← List.getElem?_drop, h, List.getElem?_append_left hi]
    exact hc
  · rw [← List.drop_drop, h, List.drop_left]

theorem At.here {nt : Int} {zs : List Int} {T : List UInt8} {k p : Nat} {x : Int} (h : At nt zs T k p) (hx : zs[k]? = some x) : (∀ (i : Nat) c, (Lib.itoa x)[i]? = some c → T[p + i]? = some c) ∧ p + (Lib.itoa x).length ≤ T.length := by
  have e : zs.drop k = x :: zs.drop (k + 1) := by rw [List.drop_eq_getElem_cons h.lt]; simp [List.getElem?_eq_getElem h.lt] at hx; rw [hx]
  have hd := h.drop
  rw [e, joinI] at hd
  obtain ⟨h1, h2, _⟩ := at_drop hd h.le
  exact ⟨h1, by omega⟩

theorem At.last {nt : Int} {zs : List Int} {T : List UInt8} {k p : Nat} {x : Int} (h : At nt zs T k p) (hx : zs[k]? = some x) (hk : k + 1 = zs.length) : p + (Lib.itoa x).length = T.length := by
  have e : zs.drop k = x :: zs.drop (k + 1) := by rw [List.drop_eq_getElem_cons h.lt]; simp [List.getElem?_eq_getElem h.lt] at hx; rw [hx]
  have hd := h.drop
  rw [e, show zs.drop (k + 1) = [] from List.drop_of_length_le (by omega), joinI_one, ← List.append_nil (Lib.itoa x)] at hd
  obtain ⟨_, h2, _⟩ := at_drop hd h.le
  simpa using h2

theorem At.next {nt : Int} {zs : List Int} {T : List UInt8} {k p : Nat} {x : Int} (h : At nt zs T k p) (hx : zs[k]? = some x) (hk : k + 1 < zs.length) :
    At nt zs T (k + 1) (p + (Lib.itoa x).length + (sepOf nt).length) ∧ (∀ (i : Nat) c, (sepOf nt)[i]? = some c → T[p + (Lib.itoa x).length + i]? = some c) := by
  have e : zs.drop k = x :: zs.drop (k + 1) := by rw [List.drop_eq_getElem_cons h.lt]; simp [List.getElem?_eq_getElem h.lt] at hx; rw [hx]
  have hd := h.drop
  rw [e, joinI_cons _ _ _ (fun e' => by have := congrArg List.length e'; simp at this; omega)] at hd
  obtain ⟨_, h2, h3⟩ := at_drop hd h.le
  simp at h2
  obtain ⟨h4, h5, h6⟩ := at_drop h3 (by omega)
  exact ⟨⟨hk, by omega, h6⟩, h4⟩

end Go.Proofs.Qxb6001227aDoor
