/-
  BYTES: copy INTO A ROW JUST MADE; hb1Equal (15) ON EQUAL BYTES; hb1Clone (12); the bounds on total length (10, 20, 21).
-/
import Derived.Test.Qxb6001227aDoorOpen
import Derived.Deep.QuietTactic
import Derived.BigQuiet
import Derived.Laws.CopyOwn
import Derived.Lib.SliceRun
namespace Go.Proofs.Qxb6001227aDoor
open Go.RowKit

/-- A slice's address and its bytes. -/
def Bl (w : World) (a : Option Addr) (bs : List UInt8) : Prop :=
  ∀ (i : Nat) c, bs[i]? = some c → ∃ b off, a = some ⟨b, off, none⟩ ∧ w.cell? ⟨b, off + i, none⟩ = some (.int .u8 (c.toNat : Int))

theorem idx_at22 {a : Option Addr} {b off : Nat} (ha : a = some ⟨b, off, none⟩) (len cap k : Nat) (kd : IntKind) (hk : k < len) (w : World) :
    (Instr.indexAt 22 (.slice a len cap) (.int kd (k : Int))).run Tryd.prog w = .ok (.pointer (some ⟨b, off + k, none⟩)) w := by
  subst ha
  have e0 : Tryd.prog.elem 22 = 5 := by kernel_rfl
  rw [run_indexAt_slice (h := by rw [e0]; exact Tryd.underlying22), if_pos ⟨by omega, by omega⟩, e0]
  have e1 : (sizeOf 5).run Tryd.prog w = .ok 1 w := by kernel_rfl
  rw [e1]
  simp [Result.andThen, Addr.add]

theorem Bl.below {w wr : World} {a : Option Addr} {bs : List UInt8} {B : Nat} (h : Bl w a bs) (hb : Below B w wr) (hB : w.heap.size ≤ B) : Bl wr a bs := by
  intro i c hc
  obtain ⟨b, off, ha, hcell⟩ := h i c hc
  exact ⟨b, off, ha, (hb.cell (p := ⟨b, off + i, none⟩) (Nat.lt_of_lt_of_le (World.block_lt_of_cell? w _ hcell) hB)).trans hcell⟩

theorem Bl.of_row {w : World} {B : Nat} {a : Option Addr} {n cap : Nat} {bs : List UInt8} (h : w.ownsRow B 5 1 (.slice a n cap) n (Lib.byteCells bs)) : Bl w a bs := by
  intro i c hc
  have hi : i < bs.length := (List.getElem?_eq_some_iff.1 hc).1
  have hl := h.1
  rw [Lib.byteCells_length] at hl
  rcases h.2 with ⟨e, hn0⟩ | ⟨g, c', cur, e, hb, hg, h1', h2, h3, h4⟩
  · omega
  · injection e with e1 e2 e3
    subst e1
    refine ⟨g, 0, rfl, ?_⟩
    have : (Lib.byteCells bs)[i]? = some (.int .u8 (c.toNat : Int)) := by simp [Lib.byteCells, hc]
    rw [← h4, List.getElem?_take, if_pos (by omega)] at this
    rw [cell_of_row w g _ cur 5 (0, 0) hg, Nat.zero_add]
    simpa using this

set_option maxHeartbeats 400000 in
theorem eq_any (a a' : Option Addr) (cap cap' : Nat) (bs : List UInt8) (w : World) (hS : Bl w a bs) (hS' : Bl w a' bs) (hL : bs.length ≤ maxLen) :
    Calls Tryd.prog 15 #[.slice a bs.length cap, .slice a' bs.length cap'] w fun e w' => e = .returned (.bool true) ∧ ∃ n, w' = w.drewN n := by
  unfold maxLen at hL
  have HS : Hid (Bl w a bs) := hS
  have HS' : Hid (Bl w a' bs) := hS'
  clear hS hS'
  go_enter Tryd.func15, Tryd.ntmps15
  go_wp2_with fail
  go_loopw [5] (fun i wr => ∃ (k m : Nat), k ≤ bs.length ∧ i = .int .i64 k ∧ wr = w.drewN m) (fun i _ => bs.length - (intOf i).toNat)
  case atStart => exact ⟨0, 0, Nat.zero_le _, rfl, rfl⟩
  case round =>
    obtain ⟨k, m, hk, rfl, rfl⟩ := hrel
    by_cases hlt : k < bs.length
    · obtain ⟨s, hs⟩ := getElem?_of_lt' bs k hlt
      obtain ⟨b, off, ha, hc⟩ := HS.out k s hs
      obtain ⟨b', off', ha', hc'⟩ := HS'.out k s hs
      have hidx := idx_at22 ha bs.length cap k .i64 hlt
      have hidx' := idx_at22 ha' bs.length cap' k .i64 hlt
      clear ha ha' hs
      go_wp2_with fail
      go_quiet (fail)
      go_wp2_with fail
      go_roundw
      case rel => exact ⟨k + 1, _, by omega, by go_num, rfl⟩
      case measure => simp [intOf]; omega
    · go_wp2_with fail
      go_ret
      exact ⟨rfl, _, rfl⟩

/-- 'copy(c, s)', c a row just made of as many cells as s has. -/
theorem copy_made {P : Program} {t e : TypeId} (ht : P.underlying t = some (.slice e)) (hsz : (P.info? e).map (·.size) = some 1) {w : World} {B g n cap : Nat} {a : Option Addr} {ys cs : List Value}
    (hown : w.ownsRow B e 1 (.slice (some ⟨g, 0, none⟩) n n) n ys) (hl : cs.length = n) (hsrc : ∀ (j : Nat) v, cs[j]? = some v → ∃ b off, a = some ⟨b, off, none⟩ ∧ w.cell? ⟨b, off + j, none⟩ = some v) (h1 : ∀ v ∈ cs, v.oneCell' = true) :
    ∃ W, (∀ ty, (Builtin.copy_ #[t, t] ty #[.slice (some ⟨g, 0, none⟩) n n, .slice a n cap]).run P w = .ok (goInt n) W) ∧ W.ownsRow B e 1 (.slice (some ⟨g, 0, none⟩) n n) n cs ∧ w.grownBy W (some g) := by
  by_cases h0 : n = 0
  · subst h0
    obtain rfl : cs = [] := List.eq_nil_of_length_eq_zero hl
    obtain rfl : ys = [] := List.eq_nil_of_length_eq_zero (by simpa using hown.1)
    refine ⟨w, fun ty => ?_, hown, World.grownBy.refl _ _⟩
    exact run_copy_none w t t ty e _ a 0 0 0 cap ht hsz rfl
  · rcases hown.2 with ⟨e0, _⟩ | ⟨g', c, cur, e0, hb, hg, h3, h4, h5, h6⟩
    · cases e0
    · injection e0 with e1 e2 e3
      injection e1 with e1
      injection e1 with e1
      subst e1 e3
      obtain ⟨v0, hv0⟩ : ∃ v, cs[0]? = some v := ⟨cs[0]'(by omega), List.getElem?_eq_getElem _⟩
      obtain ⟨b, off, ha, _⟩ := hsrc 0 v0 hv0
      subst ha
      refine ⟨w.setRow g (cur.toList.take 0 ++ (cs ++ cur.toList.drop (0 + n))).toArray, fun ty => ?_, ?_, ?_⟩
      · have hr := run_copy_row (P := P) w t t ty e g 0 n n ⟨b, off, none⟩ n cap cur e cs ht hsz hg (by rw [hl]; exact (Nat.min_self n).symm) (fun j v hj => by
          obtain ⟨b', off', ha', hc'⟩ := hsrc j v hj
          injection ha' with ha'
          injection ha' with x1 x2
          subst x1 x2
          rw [Addr.add_lit]; exact hc') (by omega) h1
        rw [hl] at hr
        exact hr
      · have hsize : (cur.toList.take 0 ++ (cs ++ cur.toList.drop (0 + n))).toArray = cs.toArray := by
          rw [List.take_zero, List.nil_append, Nat.zero_add, List.drop_of_length_le (by simp; omega), List.append_nil]
        rw [hsize]
        refine ⟨by omega, .inr ⟨g, n, cs.toArray, rfl, hb, setRow_heap w g cur _ e _ hg, Nat.le_refl _, h4, by simp; omega, ?_⟩⟩
        exact List.take_of_length_le (by simp; omega)
      · exact ⟨rfl, rfl, rfl, by simp, fun k _ hk => setRow_other w g k _ (fun e => hk (by rw [e]))⟩

theorem bytes_one (bs : List UInt8) : ∀ v ∈ Lib.byteCells bs, v.oneCell' = true := by
  intro v hv
  simp only [Lib.byteCells, List.mem_map] at hv
  obtain ⟨b, _, rfl⟩ := hv
  rfl

theorem Bl.src {w : World} {a : Option Addr} {bs : List UInt8} (h : Bl w a bs) : ∀ (j : Nat) v, (Lib.byteCells bs)[j]? = some v → ∃ b off, a = some ⟨b, off, none⟩ ∧ w.cell? ⟨b, off + j, none⟩ = some v := by
  intro j v hv
  simp only [Lib.byteCells, List.getElem?_map, Option.map_eq_some_iff] at hv
  obtain ⟨c, hc, rfl⟩ := hv
  exact h j c hc

theorem size5 : (Tryd.prog.info? 5).map (·.size) = some 1 := by kernel_rfl
theorem size2 : (Tryd.prog.info? 2).map (·.size) = some 1 := by kernel_rfl

set_option maxHeartbeats 400000 in
/-- hb1Clone: nil of nil; else a row of the call's own with the same bytes. -/
theorem clone_any (B : Nat) (a : Option Addr) (cap : Nat) (bs : List UInt8) (w : World) (hS : Bl w a bs) (hnil : a = none → bs = []) (hL : bs.length ≤ 1048576) (hB : B ≤ w.heap.size) :
    Calls Tryd.prog 12 #[.slice a bs.length cap] w fun e w' => ∃ a' cap', e = .returned (.slice a' bs.length cap') ∧ w'.ownsRow B 5 1 (.slice a' bs.length cap') bs.length (Lib.byteCells bs) ∧ Below w.heap.size w w' ∧ (∀ g, blk a' = some g → w.heap.size ≤ g) := by
  obtain ⟨i0, hi, hz0, hz1, hz2⟩ := info_parts info5
  cases a with
  | none =>
    obtain rfl := hnil rfl
    have he := Lib.run_eql_slice_nil (P := Tryd.prog) w 22 5 none 0 cap 0 0 Tryd.underlying22
    clear hS hnil
    go_enter Tryd.func12, Tryd.ntmps12
    go_wp2_with fail
    go_ret
    exact ⟨none, 0, rfl, World.ownsRow_nil _ _ _ _, Below.refl _ _, fun g hg => by simp [blk] at hg⟩
  | some x =>
    have he := Lib.run_eql_slice_nil (P := Tryd.prog) w 22 5 (some x) bs.length cap 0 0 Tryd.underlying22
    have HS : Hid (Bl w (some x) bs) := hS
    clear hS hnil
    go_enter Tryd.func12, Tryd.ntmps12
    go_wp2_with (first
      | (at_make; refine wpList_make_full _ rfl _ _ 22 rfl B 5 i0 (.int .u8 0) 1 Tryd.underlying22 hi hz0 hz1 _ _ _ _ bs.length rfl rfl rfl rfl (by rw [hz2]; omega) (by unfold maxLen; omega) hB ?_
         intro w1 hrow hgr
         have hb1 : Below w.heap.size w w1 := ⟨hgr.os, hgr.tape, hgr.output, hgr.size, fun k hk => hgr.block k hk (by simp)⟩
         obtain ⟨W, hcp, hown, hgW⟩ := copy_made (cap := cap) Tryd.underlying22 size5 hrow (Lib.byteCells_length bs) ((HS.out.below hb1 (Nat.le_refl _)).src) (bytes_one bs)
         have hbW : Below w.heap.size w W := hb1.grown hgW hb1.size (fun k hk => by rw [← Option.some.inj hk]; exact Nat.le_refl _)
         have HO : Hid (W.ownsRow B 5 1 (.slice (some ⟨w.heap.size, 0, none⟩) bs.length bs.length) bs.length (Lib.byteCells bs)) := hown
         clear hrow hgr hb1 hown hgW))
    go_ret
    exact ⟨some ⟨w.heap.size, 0, none⟩, bs.length, rfl, HO.out, hbW, fun g hg => by simp [blk] at hg; omega⟩

end Go.Proofs.Qxb6001227aDoor
