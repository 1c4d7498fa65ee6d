/-
  hb1DecodeDecimal (16): where the text lies.
-/
import Derived.Test.Qxb6001227aDoorDigit
namespace Go.Proofs.Qxb6001227aDoor
open Go.RowKit

/-- The text: a sign or none, n bytes from o1 on, an M. -/
structure Start (w : World) (neg : Bool) (g o m o1 n : Nat) : Prop where
  mm : w.cell? ⟨g, o + m, none⟩ = some (.int .u8 77)
  no : neg = false → m = n ∧ o1 = o
  yes : neg = true → m = n + 1 ∧ o1 = o + 1 ∧ w.cell? ⟨g, o, none⟩ = some (.int .u8 45)

/-- The bytes of the body. -/
def Body (w : World) (g o1 : Nat) (B : List UInt8) : Prop := ∀ (i : Nat) c, B[i]? = some c → w.cell? ⟨g, o1 + i, none⟩ = some (.int .u8 (c.toNat : Int))

/-- What comes back. -/
def Decoded (neg : Bool) (D : List UInt8) (x : Int) (e : Ending) : Prop := e = .returned (.tuple #[.bool neg, .string ⟨D.toArray⟩, .int .i64 x, .bool true])

theorem conv_at {W : World} {g o n C : Nat} {D : List UInt8} (hn : n = D.length) (h : Body W g o D) : ∀ q, (convert 22 9 (.slice (some ⟨g, o, none⟩) n C)).run Tryd.prog (W.drewN q) = .ok (.string ⟨D.toArray⟩) (W.drewN q) := by
  intro q
  subst hn
  refine run_convert_bytes_back (W.drewN q) 22 9 5 ⟨g, o, none⟩ C D Tryd.underlying22 Tryd.underlying5 Tryd.underlying9 (fun j hj => ?_)
  have := h j D[j] (List.getElem?_eq_getElem hj)
  rw [Addr.add_lit]
  exact this

theorem front_at {B D Z : List UInt8} {j : Nat} {c : UInt8} (h : B = D ++ Z) (hj : j < D.length) (hc : B[j]? = some c) : D[j]? = some c := by
  rw [h, List.getElem?_append_left hj] at hc
  exact hc
theorem zero_at {B D : List UInt8} {j z : Nat} {c : UInt8} (h : B = D ++ List.replicate z 48) (hj : D.length ≤ j) (hc : B[j]? = some c) : c = 48 := by
  rw [h, List.getElem?_append_right hj, List.getElem?_replicate] at hc
  split at hc
  · injection hc with hc; exact hc.symm
  · cases hc
theorem Body.front {w : World} {g o : Nat} {B D Z : List UInt8} (h : Body w g o B) (e : B = D ++ Z) : Body w g o D := by
  intro i c hc
  refine h i c ?_
  rw [e, List.getElem?_append_left (List.getElem?_eq_some_iff.1 hc).1]
  exact hc
theorem Body.back {w : World} {g o k : Nat} {B D Z : List UInt8} (h : Body w g o B) (e : B = D ++ Z) (hk : D.length = k) : Body w g (o + k) Z := by
  intro i c hc
  have := h (k + i) c (by rw [e, List.getElem?_append_right (by omega), show k + i - D.length = i by omega]; exact hc)
  rwa [← Nat.add_assoc] at this

end Go.Proofs.Qxb6001227aDoor
