/-
  THE ARGUMENTS, OPENED: integers' ranges; slices of bytes and of int64.
-/
import Derived.Test.Qxb6001227aDoorInts
import Derived.ProofKit
import Derived.ShutString
import Derived.ChangeOld
import Derived.Below
namespace Go.Proofs.Qxb6001227aDoor
open Go.ChangeShapes Go.WideShapes Go.ChangeAt Go.RowKit

theorem wf_i64 {x : Int} (h : (Lit.int .i64 x).wf = true) : -9223372036854775808 ≤ x ∧ x ≤ 9223372036854775807 := by
  have h1 : IntKind.i64.min = -9223372036854775808 := rfl
  have h2 : IntKind.i64.max = 9223372036854775807 := rfl
  simp only [Lit.wf, Bool.and_eq_true, decide_eq_true_eq, h1, h2] at h
  exact h

/-- A slice of bytes read: its address and its bytes. -/
structure Bs (w : World) (a : Option Addr) (cap : Nat) (bs : List UInt8) : Prop where
  cells : ∀ (i : Nat) c, bs[i]? = some c → ∃ b off, a = some ⟨b, off, none⟩ ∧ w.cell? ⟨b, off + i, none⟩ = some (.int .u8 (c.toNat : Int))
  len : bs.length ≤ cap
  cap : cap ≤ maxLen
  nil : a = none → bs = []

/-- A slice of int64 read. -/
structure Zs (w : World) (a : Option Addr) (cap : Nat) (zs : List Int) : Prop where
  cells : Il w a zs
  len : zs.length ≤ cap
  cap : cap ≤ maxLen
  wf : ∀ x ∈ zs, -9223372036854775808 ≤ x ∧ x ≤ 9223372036854775807
  nil : a = none → zs = []

theorem open_bl {H : Type} {enc : TypeId × Value → H} {W : World} {a : Option Addr} {len cap : Nat} {d : DataW H} {p : List MemPlace}
    (h : DataW.Trod enc Tryd.prog W 0 (fun _ => true) true 22 (.slice a len cap) d p) : ∃ bs : List UInt8, len = bs.length ∧ Bs W a cap bs := by
  obtain ⟨fuel, hf⟩ := h
  rcases open_ints Tryd.underlying22 Tryd.underlying5 (by kernel_rfl) hf with ⟨hcs, _⟩ | ⟨x, l, c, zs, hcs, _, hl, hm, hz, _, hcell, hwz⟩
  · simp [Value.cells] at hcs
    obtain ⟨rfl, rfl, rfl⟩ := hcs
    exact ⟨[], rfl, fun i s hs => by simp at hs, Nat.le_refl _, Nat.zero_le _, fun _ => rfl⟩
  · simp [Value.cells] at hcs
    obtain ⟨rfl, rfl, rfl⟩ := hcs
    simp only [if_true] at hz
    have hb : ∀ n ∈ zs, 0 ≤ n ∧ n ≤ 255 := by
      intro n hn
      have h0 := hwz n hn
      have h1 : IntKind.u8.min = 0 := rfl
      have h2 : IntKind.u8.max = 255 := rfl
      simp only [Lit.wf, Bool.and_eq_true, decide_eq_true_eq, h1, h2] at h0
      exact h0
    refine ⟨(zs.take len).map (fun n => UInt8.ofNat n.toNat), by simp; omega, fun i s hs => ?_, by simp; omega, hm, fun h => by cases h⟩
    have hi : i < len := by
      have := (List.getElem?_eq_some_iff.1 hs).1
      simp at this
      omega
    have hc := hcell i (by omega)
    obtain ⟨b, off, spot⟩ := x
    have hspot : spot = none := by simpa [Addr.add] using World.cell?_spot (hcell 0 (by omega))
    subst hspot
    refine ⟨b, off, rfl, ?_⟩
    rw [← add_plain, hc]
    simp only [List.getElem?_map, List.getElem?_take, if_pos hi, Option.map_eq_some_iff] at hs
    obtain ⟨n, hn, rfl⟩ := hs
    have hbn := hb n (List.mem_of_getElem? hn)
    rw [List.getD, hn, Option.getD_some, UInt8.toNat_ofNat']
    congr 2
    omega

theorem open_il {H : Type} {enc : TypeId × Value → H} {W : World} {a : Option Addr} {len cap : Nat} {d : DataW H} {p : List MemPlace}
    (h : DataW.Trod enc Tryd.prog W 0 (fun _ => true) true 34 (.slice a len cap) d p) : ∃ zs : List Int, len = zs.length ∧ Zs W a cap zs := by
  obtain ⟨fuel, hf⟩ := h
  rcases open_ints Tryd.underlying34 Tryd.underlying2 (by kernel_rfl) hf with ⟨hcs, _⟩ | ⟨x, l, c, zs, hcs, _, hl, hm, hz, _, hcell, hwz⟩
  · simp [Value.cells] at hcs
    obtain ⟨rfl, rfl, rfl⟩ := hcs
    exact ⟨[], rfl, fun i s hs => by simp at hs, Nat.le_refl _, Nat.zero_le _, fun x hx => by simp at hx, fun _ => rfl⟩
  · simp [Value.cells] at hcs
    obtain ⟨rfl, rfl, rfl⟩ := hcs
    simp only [if_true] at hz
    refine ⟨zs.take len, by simp; omega, fun i s hs => ?_, by simp; omega, hm, fun x hx => wf_i64 (hwz x (List.mem_of_mem_take hx)), fun h => by cases h⟩
    have hi : i < len := by
      have := (List.getElem?_eq_some_iff.1 hs).1
      simp at this
      omega
    have hc := hcell i (by omega)
    obtain ⟨b, off, spot⟩ := x
    have hspot : spot = none := by simpa [Addr.add] using World.cell?_spot (hcell 0 (by omega))
    subst hspot
    refine ⟨b, off, rfl, ?_⟩
    rw [← add_plain, hc]
    rw [List.getElem?_take, if_pos hi] at hs
    rw [List.getD, hs, Option.getD_some]

end Go.Proofs.Qxb6001227aDoor
