/-
  THE DOORS: ZZNewStore (15), ZZName (16), ZZNames (19); how a store lasts while other memory is written.
-/
import Derived.Test.Qxb6000977aStore
namespace Go.Proofs.Qxb6000977a
open Go.RowKit Go.WideMaps Go.Maps

/-- The place that naming t gives, and the names behind it. -/
def nmI (ns : List ByteArray) (t : ByteArray) : Nat := match ix ns t with | some k => k | none => ns.length
def nmL (ns : List ByteArray) (t : ByteArray) : List ByteArray := match ix ns t with | some _ => ns | none => ns ++ [t]
theorem nmI_some {ns : List ByteArray} {t : ByteArray} {k : Nat} (h : ix ns t = some k) : nmI ns t = k := by simp [nmI, h]
theorem nmI_none {ns : List ByteArray} {t : ByteArray} (h : ix ns t = none) : nmI ns t = ns.length := by simp [nmI, h]
theorem nmL_some {ns : List ByteArray} {t : ByteArray} {k : Nat} (h : ix ns t = some k) : nmL ns t = ns := by simp [nmL, h]
theorem nmL_none {ns : List ByteArray} {t : ByteArray} (h : ix ns t = none) : nmL ns t = ns ++ [t] := by simp [nmL, h]
theorem nmL_length (ns : List ByteArray) (t : ByteArray) : ns.length ≤ (nmL ns t).length ∧ (nmL ns t).length ≤ ns.length + 1 := by
  cases h : ix ns t with
  | some k => rw [nmL_some h]; omega
  | none => rw [nmL_none h]; simp
theorem ix_nmL (ns : List ByteArray) (t : ByteArray) : ix (nmL ns t) t = some (nmI ns t) := by
  cases h : ix ns t with
  | some k => rw [nmL_some h, nmI_some h, h]
  | none => rw [nmL_none h, nmI_none h, ix_snoc_self h]
theorem ix_nmL_some {ns : List ByteArray} (t : ByteArray) {s : ByteArray} {k : Nat} (h : ix ns s = some k) : ix (nmL ns t) s = some k := by
  cases e : ix ns t with
  | some j => rw [nmL_some e]; exact h
  | none => rw [nmL_none e]; exact ix_append_of_some _ _ _ _ h
theorem ix_nmL_from {ns : List ByteArray} {t s : ByteArray} {k : Nat} (h : ix (nmL ns t) s = some k) : s = t ∨ ix ns s = some k := by
  by_cases e : s = t
  · exact .inl e
  · right
    cases e1 : ix ns t with
    | some j => rw [nmL_some e1] at h; exact h
    | none => rw [nmL_none e1, ix_snoc_ne e] at h; exact h

set_option maxHeartbeats 400000 in
theorem zz_hit (B sb mb : Nat) (a : Option Addr) (cap : Nat) (ns : List ByteArray) (N : Nat) (w : World) (t : ByteArray) (k : Nat)
    (h : St B sb mb a cap ns N w) (ht : t.size ≤ maxLen) (hk : ix ns t = some k) :
    Calls Try.prog 16 #[.pointer (some ⟨sb, 0, none⟩), .string t] w fun e w' => e = .returned (.int .u64 (k : Int)) ∧ w' = w := by
  have HS : Hid (St B sb mb a cap ns N w) := h
  have HK : Hid (ix ns t = some k) := hk
  clear hk h
  go_enter Try.func16, Try.ntmps16
  go_wp2_with fail
  refine (name_hit B sb mb a cap ns N w t k HS.out ht HK.out).mono ?_
  rintro e w' ⟨rfl, rfl⟩
  go_wp2_with fail
  go_ret
  exact ⟨rfl, rfl⟩

set_option maxHeartbeats 400000 in
theorem zz_any (B sb mb : Nat) (a : Option Addr) (cap : Nat) (ns : List ByteArray) (N : Nat) (w : World) (t : ByteArray)
    (h : St B sb mb a cap ns N w) (ht : t.size ≤ maxLen) (hn : ns.length ≤ 1000000) (hN : N ≤ 1000000) :
    Calls Try.prog 16 #[.pointer (some ⟨sb, 0, none⟩), .string t] w fun e w' => e = .returned (.int .u64 (nmI ns t : Int)) ∧ ∃ a' cap', St B sb mb a' cap' (nmL ns t) (N + 1) w' ∧ Fr B sb mb a ns.length w w' a' := by
  cases hk : ix ns t with
  | some k =>
    refine (zz_hit B sb mb a cap ns N w t k h ht hk).mono ?_
    rintro e w' ⟨rfl, rfl⟩
    exact ⟨by rw [nmI_some hk], a, cap, by rw [nmL_some hk]; exact h.mono (by omega), Fr.refl _ _ _ _ _ _⟩
  | none =>
    have HS : Hid (St B sb mb a cap ns N w) := h
    have HK : Hid (ix ns t = none) := hk
    clear h hk
    go_enter Try.func16, Try.ntmps16
    go_wp2_with fail
    refine (name_miss B sb mb a cap ns N w t HS.out ht HK.out hn hN).mono ?_
    rintro e w' ⟨rfl, hx⟩
    have HX : Hid _ := hx
    clear hx
    go_wp2_with fail
    go_ret
    exact ⟨ret_int (by rw [nmI_none HK.out]), by rw [nmL_none HK.out]; exact HX.out⟩

set_option maxHeartbeats 400000 in
theorem names_any (B sb mb : Nat) (a : Option Addr) (cap : Nat) (ns : List ByteArray) (N : Nat) (w : World)
    (h : St B sb mb a cap ns N w) :
    Calls Try.prog 19 #[.pointer (some ⟨sb, 0, none⟩)] w fun e w' => e = .returned (.slice a ns.length cap) ∧ w' = w := by
  have c2 := h.c2
  clear h
  go_enter Try.func19, Try.ntmps19
  go_wp2
  go_ret
  exact ⟨rfl, rfl⟩

theorem St.made (B : Nat) (w : World) (hB : B ≤ w.heap.size) :
    St B (w.heap.size + 1) w.heap.size none 0 [] 0 ((w.alloc (.map #[] 0)).alloc (.cells #[.slice none 0 0, .slice none 0 0, .slice none 0 0, .map (some w.heap.size)] 50)) := by
  refine ⟨?_, World.ownsRow_nil _ _ _ _, ⟨.map [], (World.ownsMap_made _ _ _ _).alloc _, Agree.empty⟩, by omega, hB, by simp; omega⟩
  have : (w.alloc (.map #[] 0)).heap.size = w.heap.size + 1 := by simp
  have e := Go.heap_alloc_new (w.alloc (.map #[] 0)) (.cells #[.slice none 0 0, .slice none 0 0, .slice none 0 0, .map (some w.heap.size)] 50)
  rw [this] at e
  exact e

set_option maxHeartbeats 400000 in
theorem new_any (B : Nat) (w : World) (hB : B ≤ w.heap.size) :
    Calls Try.prog 15 #[] w fun e w' => e = .returned (.pointer (some ⟨w.heap.size + 1, 0, none⟩)) ∧ St B (w.heap.size + 1) w.heap.size none 0 [] 0 w' ∧ Below w.heap.size w w' := by
  have hmm := @run_makeMap Try.prog
  go_enter Try.func15, Try.ntmps15
  go_wp2
  go_ret
  exact ⟨rfl, St.made B w hB, ((Below.refl _ _).alloc (Nat.le_refl _) _).alloc (by simp) _⟩

theorem Sl.below {w wr : World} {a : Option Addr} {ss : List ByteArray} {B : Nat} (h : Sl w a ss) (hb : Below B w wr) (hB : w.heap.size ≤ B) : Sl wr a ss := by
  intro i s hs
  obtain ⟨b, off, ha, hc⟩ := h i s hs
  exact ⟨b, off, ha, (hb.cell (p := ⟨b, off + i, none⟩) (Nat.lt_of_lt_of_le (World.block_lt_of_cell? w _ hc) hB)).trans hc⟩

/-- A store lasts while a row that is none of its own is written, and new blocks are made. -/
theorem St.grown {B sb mb : Nat} {a : Option Addr} {cap : Nat} {ns : List ByteArray} {N : Nat} {w w' : World} {row : Option Nat} (h : St B sb mb a cap ns N w) (hg : w.grownBy w' row)
    (h1 : some sb ≠ row) (h2 : some mb ≠ row) (h3 : blk a = none ∨ blk a ≠ row) : St B sb mb a cap ns N w' := by
  obtain ⟨D, hown, hag⟩ := h.map
  refine ⟨(hg.block sb h.lt h1).trans h.cells, h.row.kept hg (by rw [ownBlock_slice]; exact h3), ⟨D, hown.kept hg h2, hag⟩, h.hsb, h.hmb, Nat.le_trans h.hB hg.size⟩

/-- Below the store's base naming turns nothing. -/
theorem Fr.below {B sb mb : Nat} {a a' : Option Addr} {cap : Nat} {ns : List ByteArray} {N n : Nat} {w w' : World} (f : Fr B sb mb a n w w' a') (h : St B sb mb a cap ns N w) : Below B w w' := by
  refine ⟨f.os, f.tape, f.output, f.size, fun k hk => ?_⟩
  have h1 := h.hsb
  have h2 := h.hmb
  have h3 := h.hB
  refine f.block k (by omega) (by omega) (by omega) (fun e => ?_)
  have := (h.row.lt k (by rw [ownBlock_slice]; exact e.symm)).1
  omega

end Go.Proofs.Qxb6000977a
