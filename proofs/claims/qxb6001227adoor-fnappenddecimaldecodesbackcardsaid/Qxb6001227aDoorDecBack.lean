/-
  THE WALK OF FnAppendDecimalDecodesBack (3).
-/
import Derived.Test.Qxb6001227aDoorDecPlain
import Derived.Test.Qxb6001227aDoorBackParts
namespace Go.Proofs.Qxb6001227aDoor
open Go.RowKit

set_option maxHeartbeats 400000 in
theorem zad_any {neg : Bool} {s : ByteArray} {x : Int} {Bd : List UInt8} (hW : Writes neg s x Bd) (B n cap : Nat) (a : Option Addr) (pre : List Value) (w : World) (hown : w.ownsRow B 5 1 (.slice a n cap) n pre) (hB : B ≤ w.heap.size) (hlim : n + 4000000 ≤ 140737488355328) (htab : Lib.TabBelow Tryd.prog B w powName .u64 Lib.pow10Tab) :
    Calls Tryd.prog 13 #[.slice a n cap, .agg #[.bool neg, .string s, .int .i64 x]] w fun e w' => Wrote B w a pre n (sgn neg ++ Bd ++ [77]) e w' := by
  have HT : Hid (Lib.TabBelow Tryd.prog B w powName .u64 Lib.pow10Tab) := htab
  have HW : Hid (Writes neg s x Bd) := hW
  have HO : Hid (w.ownsRow B 5 1 (.slice a n cap) n pre) := hown
  clear htab hW hown
  go_enter Tryd.func13, Tryd.ntmps13
  go_wp2_with fail
  refine (HW.out B n cap a pre _ (HO.out.alloc _) (by simp; omega) hlim (HT.out.on ((Below.refl _ _).alloc hB _))).mono ?_
  rintro e w2 ⟨a2, m2, cap2, rfl, hA⟩
  have HA : Hid _ := hA
  clear hA
  go_wp2_with fail
  go_ret
  exact HA.out.out hB rfl

theorem start_of {W : World} {g o : Nat} {neg : Bool} {Bd : List UInt8} (h : Body W g o (sgn neg ++ Bd ++ [77])) : ∃ o1, Start W neg g o (sgn neg ++ Bd).length o1 Bd.length ∧ Body W g o1 Bd := by
  have hM : W.cell? ⟨g, o + (sgn neg ++ Bd).length, none⟩ = some (.int .u8 77) := h _ 77 (by rw [List.getElem?_append_right (Nat.le_refl _), Nat.sub_self]; rfl)
  cases neg with
  | false => exact ⟨o, ⟨hM, fun _ => ⟨by simp [sgn], rfl⟩, fun h => by cases h⟩, h.front (D := Bd) (Z := [77]) (by simp [sgn])⟩
  | true => exact ⟨o + 1, ⟨hM, (fun h => by cases h), fun _ => ⟨by simp [sgn], rfl, by have h1 := h 0 45 rfl; rwa [Nat.add_zero] at h1⟩⟩, (h.front (D := [45] ++ Bd) (Z := [77]) (by simp [sgn])).back (k := 1) rfl rfl⟩

theorem body_of {W : World} {B g cap m : Nat} {bs T : List UInt8} (h : W.ownsRow B 5 1 (.slice (some ⟨g, 0, none⟩) m cap) m (Lib.byteCells (bs ++ T))) : Bl W (some ⟨g, 0, none⟩) bs ∧ Body W g bs.length T := by
  have hB := Bl.of_row h
  refine ⟨fun i c hc => hB i c (by rw [List.getElem?_append_left (List.getElem?_eq_some_iff.1 hc).1]; exact hc), fun i c hc => ?_⟩
  obtain ⟨b, off, ha, hcell⟩ := hB (bs.length + i) c (by rw [List.getElem?_append_right (by omega)]; simpa using hc)
  injection ha with ha
  injection ha with e1 e2
  subst e1 e2
  rwa [Nat.zero_add] at hcell

set_option maxRecDepth 100000 in
set_option maxHeartbeats 1000000 in
theorem db_far (a0 : Option Addr) (cap0 : Nat) (bs : List UInt8) (neg : Bool) (s : ByteArray) (x : Int) (w : World) (hlen : ¬ bs.length + s.size ≤ 1048576) (hL : bs.length ≤ maxLen) (hM : s.size ≤ maxLen) :
    Calls Tryd.prog 3 #[.slice a0 bs.length cap0, .bool neg, .string s, .int .i64 x] w fun e w' => e = .returned (.bool true) ∧ Below w.heap.size w w' := by
  unfold maxLen at hL hM
  by_cases hl1 : bs.length ≤ 1048576
  rotate_left
  · go_enter Tryd.func3, Tryd.ntmps3
    go_wp2_with fail
    refine (zb10_any a0 bs.length cap0 neg s x _ (by unfold maxLen; omega) (by unfold maxLen; omega)).mono ?_
    rintro e w' ⟨⟨b, rfl⟩, hw⟩; subst w'
    cases b
    all_goals
      go_wp2_with fail
      go_ret
      exact ⟨rfl, Below.refl _ _⟩
  by_cases hl2 : s.size ≤ 1048576
  all_goals
    go_enter Tryd.func3, Tryd.ntmps3
    go_wp2_with fail
    refine (zb10_any a0 bs.length cap0 neg s x _ (by unfold maxLen; omega) (by unfold maxLen; omega)).mono ?_
    rintro e w' ⟨⟨b, rfl⟩, hw⟩; subst w'
    cases b
    all_goals
      go_wp2_with fail
      go_ret
      exact ⟨rfl, Below.refl _ _⟩

set_option maxRecDepth 100000 in
set_option maxHeartbeats 4000000 in
theorem db_near (a0 : Option Addr) (cap0 : Nat) (bs : List UInt8) (neg : Bool) (s : ByteArray) (x : Int) (w : World) (hlen : bs.length + s.size ≤ 1048576) (hZ : Bs w a0 cap0 bs) (h0 : -9223372036854775808 ≤ x) (h1 : x ≤ 9223372036854775807) (htab : Lib.TabIs Tryd.prog w powName .u64 Lib.pow10Tab) :
    Calls Tryd.prog 3 #[.slice a0 bs.length cap0, .bool neg, .string s, .int .i64 x] w fun e w' => e = .returned (.bool true) ∧ Below w.heap.size w w' := by
  have HZ : Hid (Bs w a0 cap0 bs) := hZ
  have HT : Hid (Lib.TabIs Tryd.prog w powName .u64 Lib.pow10Tab) := htab
  have hl1 : bs.length ≤ 1048576 := by omega
  have hl2 : s.size ≤ 1048576 := by omega
  clear hZ htab
  by_cases hm : x = -9223372036854775808
  · have hxb : (x == -9223372036854775808) = true := by rw [beq_iff_eq]; exact hm
    clear hm
    go_enter Tryd.func3, Tryd.ntmps3
    go_wp2_with fail
    refine (zb10_any a0 bs.length cap0 neg s x _ (by unfold maxLen; omega) (by unfold maxLen; omega)).mono ?_
    rintro e w' ⟨⟨b, rfl⟩, hw⟩; subst w'
    cases b
    all_goals
      go_wp2_with fail
      go_ret
      exact ⟨rfl, Below.refl _ _⟩
  have hxb : (x == -9223372036854775808) = false := by rw [beq_eq_false_iff_ne]; exact hm
  have hx0 : -9223372036854775808 < x := by omega
  clear hm
  have HV : Hid (∀ (w : World), Calls Tryd.prog 11 #[.bool neg, .string s, .int .i64 x] w fun e w' => SomeValid neg s.data.toList x e ∧ w' = w) := fun w => vd_any neg s _ x w rfl (by unfold maxLen; simp; omega)
  go_enter Tryd.func3, Tryd.ntmps3
  go_wp2_with fail
  refine (zb10_any a0 bs.length cap0 neg s x _ (by unfold maxLen; omega) (by unfold maxLen; omega)).mono ?_
  rintro e w' ⟨⟨b, rfl⟩, hw⟩; subst w'
  cases b
  · go_wp2_with fail
    go_ret
    exact ⟨rfl, Below.refl _ _⟩
  go_wp2_with fail
  refine (HV.out w).mono ?_
  rintro e w' ⟨⟨b, rfl, hv⟩, hw⟩; subst w'
  cases b
  · clear hv
    go_wp2_with fail
    go_ret
    exact ⟨rfl, Below.refl _ _⟩
  obtain ⟨Bd, hRB, hWr, hBl⟩ := valid_text (s := s) rfl (by simp; omega) (hv rfl) hx0 h1
  have HRB : Hid (ReadsBack neg s.data.toList x Bd) := hRB
  have HWr : Hid (Writes neg s x Bd) := hWr
  clear hv hRB hWr HV
  go_wp2_with fail
  refine (clone_any w.heap.size a0 cap0 bs w HZ.out.cells HZ.out.nil hl1 (Nat.le_refl _)).mono ?_
  rintro e w1 ⟨a1, cap1, rfl, own1, hb1, hg1⟩
  have hs1 := hb1.size
  have HA1 : Hid (w1.ownsRow w.heap.size 5 1 (.slice a1 bs.length cap1) bs.length (Lib.byteCells bs)) := own1
  clear own1
  go_wp2_with fail
  refine (clone_any w.heap.size a1 cap1 bs w1 (Bl.of_row HA1.out) (fun h => ?_) hl1 (by omega)).mono ?_
  · subst h
    rcases HA1.out.2 with ⟨_, h0⟩ | ⟨g, c', cur, e, _⟩
    · exact List.eq_nil_of_length_eq_zero h0
    · cases e
  rintro e w2 ⟨a2, cap2, rfl, own2, hb2, hg2⟩
  have hs2 := hb2.size
  have HA2 : Hid (w2.ownsRow w.heap.size 5 1 (.slice a2 bs.length cap2) bs.length (Lib.byteCells bs)) := own2
  clear own2
  go_wp2_with fail
  refine (zd_any neg s x w2).mono ?_
  rintro e w3 ⟨rfl, hb3⟩
  have hs3 := hb3.size
  have HB3 : Hid (Below w.heap.size w w3) := (hb1.trans (hb2.mono hs1)).trans (hb3.mono (by omega))
  have HA13 : Hid (w3.ownsRow w.heap.size 5 1 (.slice a1 bs.length cap1) bs.length (Lib.byteCells bs)) := row_below (row_below HA1.out hb2) hb3
  have HA23 : Hid (w3.ownsRow w.heap.size 5 1 (.slice a2 bs.length cap2) bs.length (Lib.byteCells bs)) := row_below HA2.out hb3
  have HNE : Hid (blk a2 = none ∨ blk a2 ≠ blk a1) := by
    cases h : blk a2 with
    | none => exact .inl rfl
    | some g =>
      refine .inr (fun e => ?_)
      have := hg2 g h
      have := (HA1.out.lt g (by rw [ownBlock_slice]; exact e.symm)).2
      omega
  clear hb1 hg1 hb2 hg2 hb3 HA1 HA2
  go_wp2_with fail
  refine (zad_any HWr.out w.heap.size bs.length cap1 a1 (Lib.byteCells bs) w3 HA13.out (by omega) (by omega) ((Lib.tabBelow_of_tabIs HT.out).on HB3.out)).mono ?_
  rintro e w4 ⟨a4, m4, cap4, rfl, hA⟩
  have HBl : Hid (Below w.heap.size w w4) := HB3.out.trans (hA.gr.below HB3.out.size (fun g hg => (HA13.out.lt g (by rw [ownBlock_slice]; exact hg)).1))
  have HPr : Hid (Bl w4 a2 bs) := Bl.of_row (hA.gr.row HA23.out HNE.out)
  have hown4 : w4.ownsRow w.heap.size 5 1 (.slice a4 m4 cap4) m4 (Lib.byteCells (bs ++ (sgn neg ++ Bd ++ [77]))) := by rw [Lib.byteCells_append]; exact hA.own
  have hm4 := hA.len
  obtain ⟨m, hmm⟩ : ∃ m, (sgn neg ++ Bd).length = m := ⟨_, rfl⟩
  have hm5 : m ≤ 4000000 := by rw [← hmm, List.length_append]; cases neg <;> simp [sgn] <;> omega
  have hT7 : (sgn neg ++ Bd ++ [77]).length = m + 1 := by rw [List.length_append, hmm]; rfl
  rw [hT7] at hm4
  clear hT7
  obtain ⟨g, ha4, _, hc1, hc2, _⟩ := row_cells hown4 (by rw [hm4, List.length_append, List.length_append, hmm]; rfl) (by omega)
  subst ha4
  obtain ⟨hBp, hBd⟩ := body_of hown4
  obtain ⟨o1, hSt, hBo⟩ := start_of hBd
  rw [hmm] at hSt
  have HPp : Hid (Bl w4 (some ⟨g, 0, none⟩) bs) := hBp
  have HSt : Hid (Start w4 neg g bs.length m o1 Bd.length) := hSt
  have HBo : Hid (Body w4 g o1 Bd) := hBo
  subst hm4
  unfold maxLen at hc2
  clear hown4 hBp hBd hSt hBo hA HB3 HA13 HA23 HNE HWr hmm
  have hcz : ¬ cap4 = 0 := by omega
  have hcp : ¬ cap4 = bs.length := by omega
  have hcle : (bs.length : Int) ≤ (cap4 : Int) := by omega
  have hng : ¬ ((bs.length : Int) + ((m : Int) + 1) < (bs.length : Int)) := by omega
  go_wp2_with fail
  refine (eq_at bs.length (some ⟨g, 0, none⟩) a2 _ _ bs w4 rfl HPp.out HPr.out (by unfold maxLen; omega)).mono ?_
  rintro e w5 ⟨rfl, m5, rfl⟩
  go_wp2_with fail
  have hst5 : Start (w4.drewN m5) neg g bs.length m o1 Bd.length := ⟨HSt.out.mm, HSt.out.no, HSt.out.yes⟩
  refine (HRB.out g bs.length m o1 Bd.length _ (w4.drewN m5) hst5 rfl hm5 (by omega) (by omega) HBo.out).mono ?_
  rintro e w6 ⟨he, hb6⟩
  have hsd : (ByteArray.mk s.data.toList.toArray) = s := by cases s; simp
  unfold Decoded at he
  rw [hsd] at he
  subst he
  have HB6 : Hid (Below w.heap.size w w6) := (below_drewN HBl.out m5).trans (hb6.mono HBl.out.size)
  clear hsd hst5 hb6
  cases neg
  all_goals
    go_wp2_with fail
    go_ret
    exact ⟨rfl, HB6.out⟩

theorem db_any (a0 : Option Addr) (cap0 : Nat) (bs : List UInt8) (neg : Bool) (s : ByteArray) (x : Int) (w : World) (hZ : Bs w a0 cap0 bs) (hs : s.size ≤ maxLen) (h0 : -9223372036854775808 ≤ x) (h1 : x ≤ 9223372036854775807) (htab : Lib.TabIs Tryd.prog w powName .u64 Lib.pow10Tab) :
    Calls Tryd.prog 3 #[.slice a0 bs.length cap0, .bool neg, .string s, .int .i64 x] w fun e w' => e = .returned (.bool true) ∧ Below w.heap.size w w' := by
  by_cases hlen : bs.length + s.size ≤ 1048576
  · exact db_near a0 cap0 bs neg s x w hlen hZ h0 h1 htab
  · exact db_far a0 cap0 bs neg s x w hlen (Nat.le_trans hZ.len hZ.cap) hs

end Go.Proofs.Qxb6001227aDoor
