/-
  AppendSeparator (22), appendInts (27), ZZAppendInts (18).
-/
import Derived.Test.Qxb6001227aDoorItoa
namespace Go.Proofs.Qxb6001227aDoor
open Go.RowKit

/-- What parts two numbers. -/
def sepOf (nt : Int) : List UInt8 := if nt = 1 then [44, 32] else [32]
/-- The numbers' text. -/
def joinI (nt : Int) : List Int → List UInt8
  | [] => []
  | x :: r => Lib.itoa x ++ r.flatMap (fun y => sepOf nt ++ Lib.itoa y)

theorem joinI_one (nt x : Int) : joinI nt [x] = Lib.itoa x := by simp [joinI]
theorem joinI_snoc (nt : Int) (l : List Int) (x : Int) (h : l ≠ []) : joinI nt (l ++ [x]) = joinI nt l ++ sepOf nt ++ Lib.itoa x := by
  cases l with
  | nil => exact absurd rfl h
  | cons y r => simp [joinI]
theorem sepOf_len (nt : Int) : 1 ≤ (sepOf nt).length ∧ (sepOf nt).length ≤ 2 := by
  unfold sepOf; split <;> simp
theorem joinI_len (nt : Int) : ∀ (zs : List Int), (∀ x ∈ zs, -9223372036854775808 ≤ x ∧ x ≤ 9223372036854775807) → (joinI nt zs).length ≤ 23 * zs.length
  | [], _ => by simp [joinI]
  | x :: r, h => by
    have h1 := h x List.mem_cons_self
    have h2 := Lib.itoa_length_le x h1.1 h1.2
    have h3 : ∀ (l : List Int), (∀ y ∈ l, -9223372036854775808 ≤ y ∧ y ≤ 9223372036854775807) → (l.flatMap (fun y => sepOf nt ++ Lib.itoa y)).length ≤ 23 * l.length := by
      intro l
      induction l with
      | nil => intro _; simp
      | cons y l ih =>
        intro hl
        have h4 := hl y List.mem_cons_self
        have h5 := Lib.itoa_length_le y h4.1 h4.2
        have h6 := ih (fun z hz => hl z (List.mem_cons_of_mem _ hz))
        have h7 := (sepOf_len nt).2
        simp only [List.flatMap_cons, List.length_append, List.length_cons]
        omega
    have h8 := h3 r (fun z hz => h z (List.mem_cons_of_mem _ hz))
    simp only [joinI, List.length_append, List.length_cons]
    omega

set_option maxHeartbeats 400000 in
theorem as_any (B n cap : Nat) (nt : Int) (a : Option Addr) (xs : List Value) (w : World) (hown : w.ownsRow B 5 1 (.slice a n cap) n xs) (hBw : B ≤ w.heap.size) (hlim : n + 2 ≤ 140737488355328) :
    Calls Tryd.prog 22 #[.int .i64 nt, .slice a n cap] w fun e w' => ∃ a' cap', e = .returned (.slice a' (n + (sepOf nt).length) cap') ∧ w'.ownsRow B 5 1 (.slice a' (n + (sepOf nt).length) cap') (n + (sepOf nt).length) (xs ++ Lib.byteCells (sepOf nt)) ∧ Gr w w' a a' := by
  obtain ⟨i0, hi, hz0, hz1, hz2⟩ := info_parts info5
  by_cases h1 : nt = 1
  · have e1 : sepOf nt = [44, 32] := by simp [sepOf, h1]
    have hb : (nt == 1) = true := by simp [h1]
    rw [e1]
    clear h1 e1
    go_enter Tryd.func22, Tryd.ntmps22
    go_wp2_with (first
      | (at_builtin; refine wpList_append_str _ rfl _ _ 22 9 rfl B 5 i0 Tryd.underlying22 Tryd.underlying9 hi hz0 hz1 hz2 _ _ _ _ rfl hown ⟨#[44, 32]⟩ rfl (by show n + 2 ≤ maxLen; unfold maxLen; omega) (by show n + 2 ≤ _; omega) hBw ?_
         intro a' cap' w1 hown' hgr))
    go_ret
    exact ⟨a', cap', rfl, hown', hgr⟩
  · have e1 : sepOf nt = [32] := by simp [sepOf, h1]
    have hb : (nt == 1) = false := by simp [h1]
    rw [e1]
    clear h1 e1
    go_enter Tryd.func22, Tryd.ntmps22
    go_wp2_with (first
      | (at_builtin; refine wpList_append_bs _ rfl _ _ 22 rfl B 5 i0 Tryd.underlying22 hi hz0 hz1 hz2 _ _ _ _ rfl (hown.alloc _) ⟨w.heap.size, 0, none⟩ 1 1 [Value.int .u8 32] rfl rfl (cell_one_new _ _ _) (one_byte 32) (by unfold maxLen; omega) (by omega) (by simp; omega) ?_
         intro a1 cap1 w1 hown1 hgr1))
    go_ret
    exact ⟨a1, cap1, rfl, hown1, (Gr.alloc w a (.cells #[.int .u8 32] 5)).trans hgr1⟩

/-- A slice of int64 read. -/
def Il (w : World) (a : Option Addr) (zs : List Int) : Prop :=
  ∀ (i : Nat) x, zs[i]? = some x → ∃ b off, a = some ⟨b, off, none⟩ ∧ w.cell? ⟨b, off + i, none⟩ = some (.int .i64 x)

theorem idx_at34 {a : Option Addr} {b off : Nat} (ha : a = some ⟨b, off, none⟩) (len cap k : Nat) (kd : IntKind) (hk : k < len) (w : World) :
    (Instr.indexAt 34 (.slice a len cap) (.int kd (k : Int))).run Tryd.prog w = .ok (.pointer (some ⟨b, off + k, none⟩)) w := by
  subst ha
  have e0 : Tryd.prog.elem 34 = 2 := by kernel_rfl
  rw [run_indexAt_slice (h := by rw [e0]; exact Tryd.underlying34), if_pos ⟨by omega, by omega⟩, e0]
  have e1 : (sizeOf 2).run Tryd.prog w = .ok 1 w := by kernel_rfl
  rw [e1]
  simp [Result.andThen, Addr.add]

theorem getElem?_of_lt' {α : Type} (l : List α) (k : Nat) (h : k < l.length) : ∃ s, l[k]? = some s := ⟨l[k], List.getElem?_eq_getElem h⟩

theorem join_first {nt : Int} {zs : List Int} {k : Nat} {x : Int} (hk : k = 0) (h : zs[k]? = some x) : joinI nt (zs.take k) = [] ∧ joinI nt (zs.take (k + 1)) = Lib.itoa x := by
  subst hk
  have e : zs.take 1 = [x] := by rw [List.take_add_one, h]; rfl
  exact ⟨by simp [joinI], by rw [e]; exact joinI_one nt x⟩
theorem join_next {nt : Int} {zs : List Int} {k : Nat} {x : Int} (hk : ¬ k = 0) (h : zs[k]? = some x) : joinI nt (zs.take (k + 1)) = joinI nt (zs.take k) ++ sepOf nt ++ Lib.itoa x := by
  have e : zs.take (k + 1) = zs.take k ++ [x] := by rw [List.take_add_one, h]; rfl
  have hl : k < zs.length := (List.getElem?_eq_some_iff.1 h).1
  rw [e]
  refine joinI_snoc nt _ x (fun e' => ?_)
  have := congrArg List.length e'
  rw [List.length_take, List.length_nil] at this
  omega

/-- k numbers written. -/
structure RI (B : Nat) (w : World) (a : Option Addr) (n : Nat) (pre : List Value) (nt : Int) (zs : List Int) (k : Nat) (wr : World) (a' : Option Addr) (cap' : Nat) : Prop where
  own : wr.ownsRow B 5 1 (.slice a' (n + (joinI nt (zs.take k)).length) cap') (n + (joinI nt (zs.take k)).length) (pre ++ Lib.byteCells (joinI nt (zs.take k)))
  gr : Gr w wr a a'

set_option maxHeartbeats 1000000 in
theorem aps_any (B n cap : Nat) (nt : Int) (a ax : Option Addr) (capx : Nat) (pre : List Value) (zs : List Int) (w : World) (hown : w.ownsRow B 5 1 (.slice a n cap) n pre) (hBw : B ≤ w.heap.size) (hI : Il w ax zs) (hne : ∀ x, ax = some x → some x.block ≠ blk a)
    (hx : ∀ x ∈ zs, -9223372036854775808 ≤ x ∧ x ≤ 9223372036854775807) (hlim : n + 23 * zs.length + 25 ≤ 140737488355328) (htab : Lib.TabBelow Tryd.prog B w powName .u64 Lib.pow10Tab) :
    Calls Tryd.prog 27 #[.int .i64 nt, .slice a n cap, .slice ax zs.length capx] w fun e w' => ∃ a' cap', e = .returned (.slice a' (n + (joinI nt zs).length) cap') ∧ w'.ownsRow B 5 1 (.slice a' (n + (joinI nt zs).length) cap') (n + (joinI nt zs).length) (pre ++ Lib.byteCells (joinI nt zs)) ∧ Gr w w' a a' := by
  have HB : Hid (∀ g, blk a = some g → B ≤ g) := fun g hg => (hown.lt g (by rw [ownBlock_slice]; exact hg)).1
  have HT : Hid (Lib.TabBelow Tryd.prog B w powName .u64 Lib.pow10Tab) := htab
  have HI : Hid (Il w ax zs) := hI
  have HN : Hid (∀ x, ax = some x → some x.block ≠ blk a) := hne
  have HX : Hid (∀ x ∈ zs, -9223372036854775808 ≤ x ∧ x ≤ 9223372036854775807) := hx
  have hR0 : RI B w a n pre nt zs 0 w a cap := ⟨by simpa [joinI, Lib.byteCells] using hown, Gr.refl _ _⟩
  clear hown hI hne hx htab
  go_enter Tryd.func27, Tryd.ntmps27
  go_wp2_with fail
  go_loopw [1, 11] (fun v i wr => ∃ k : Nat, k ≤ zs.length ∧ i = .int .i64 k ∧ ∃ a' cap', v = .slice a' (n + (joinI nt (zs.take k)).length) cap' ∧ RI B w a n pre nt zs k wr a' cap') (fun _ i _ => zs.length - (intOf i).toNat)
  case atStart => exact ⟨0, Nat.zero_le _, rfl, a, cap, rfl, hR0⟩
  case round =>
    clear hR0
    obtain ⟨k, hk, rfl, a1, cap1, rfl, hR⟩ := hrel
    have hlenk := joinI_len nt (zs.take k) (fun x hx => HX.out x (List.mem_of_mem_take hx))
    simp only [List.length_take] at hlenk
    by_cases hlt : k < zs.length
    · obtain ⟨x, hxk⟩ := getElem?_of_lt' zs k hlt
      obtain ⟨b, off, ha, hc⟩ := HI.out k x hxk
      have hidx := idx_at34 ha zs.length capx k .i64 hlt
      have hcr : wr.cell? ⟨b, off + k, none⟩ = some (.int .i64 x) := by
        rw [World.cell?_of_block (hR.gr.g.block b (World.block_lt_of_cell? w _ hc) (HN.out _ ha))]
        exact hc
      have hxb := HX.out x (List.mem_of_getElem? hxk)
      obtain ⟨hx1, hx2⟩ := hxb
      have hxl := Lib.itoa_length_le x hx1 hx2
      have hbel := hR.gr.below hBw HB.out
      have hsz := hbel.size
      have hki : (k : Int) < (zs.length : Int) := by omega
      have HXK : Hid (zs[k]? = some x) := hxk
      clear ha hc hxk
      by_cases hk0 : k = 0
      · obtain ⟨j1, j2⟩ := join_first (nt := nt) hk0 HXK.out
        have hki0 : (k : Int) ≤ 0 := by omega
        have HK : Hid (k = 0) := hk0
        have HJ2 : Hid (joinI nt (zs.take (k + 1)) = Lib.itoa x) := j2
        have hown1 := hR.own
        rw [j1] at hown1 ⊢
        have hgr1 := hR.gr
        clear hk0 j1 j2 hR
        simp only [List.length_nil, Nat.add_zero, Lib.byteCells, List.map_nil, List.append_nil] at hown1 ⊢
        go_wp2_with fail
        refine (ai_any B n cap1 x hx1 hx2 a1 pre wr hown1 (by omega) (by omega) (HT.out.on hbel)).mono ?_
        rintro e w2 ⟨a2, cap2, rfl, hown2, hgr2⟩
        go_wp2_with fail
        go_roundw
        case rel => exact ⟨k + 1, by omega, by go_num, a2, cap2, by rw [HJ2.out], by rw [HJ2.out]; exact hown2, hgr1.trans hgr2⟩
        case measure => simp [intOf]; omega
      · have HJ : Hid (joinI nt (zs.take (k + 1)) = joinI nt (zs.take k) ++ sepOf nt ++ Lib.itoa x) := join_next hk0 HXK.out
        have hki0 : (0 : Int) < (k : Int) := by omega
        have hown1 := hR.own
        have hgr1 := hR.gr
        have hsl := (sepOf_len nt).2
        clear hk0 hR
        generalize joinI nt (zs.take k) = J at *
        go_wp2_with fail
        refine (as_any B (n + J.length) cap1 nt a1 _ wr hown1 (by omega) (by omega)).mono ?_
        rintro e w2 ⟨a2, cap2, rfl, hown2, hgr2⟩
        have hgr12 := hgr1.trans hgr2
        have hbel2 := hgr12.below hBw HB.out
        have hsz2 := hbel2.size
        go_wp2_with fail
        refine (ai_any B (n + J.length + (sepOf nt).length) cap2 x hx1 hx2 a2 _ w2 hown2 (by omega) (by omega) (HT.out.on hbel2)).mono ?_
        rintro e w3 ⟨a3, cap3, rfl, hown3, hgr3⟩
        have hE : n + (J ++ sepOf nt ++ Lib.itoa x).length = n + J.length + (sepOf nt).length + (Lib.itoa x).length := by simp; omega
        have hC : pre ++ Lib.byteCells (J ++ sepOf nt ++ Lib.itoa x) = pre ++ Lib.byteCells J ++ Lib.byteCells (sepOf nt) ++ Lib.byteCells (Lib.itoa x) := by simp [Lib.byteCells]
        have HE : Hid (n + (J ++ sepOf nt ++ Lib.itoa x).length = n + J.length + (sepOf nt).length + (Lib.itoa x).length) := hE
        have HC : Hid (pre ++ Lib.byteCells (J ++ sepOf nt ++ Lib.itoa x) = pre ++ Lib.byteCells J ++ Lib.byteCells (sepOf nt) ++ Lib.byteCells (Lib.itoa x)) := hC
        clear hE hC
        go_wp2_with fail
        go_roundw
        case rel => exact ⟨k + 1, by omega, by go_num, a3, cap3, by rw [HJ.out, HE.out], by rw [HJ.out, HE.out, HC.out]; exact hown3, hgr12.trans hgr3⟩
        case measure => simp [intOf]; omega
    · have hkk : k = zs.length := by omega
      subst hkk
      have hown1 := hR.own
      have hgr1 := hR.gr
      rw [List.take_length] at hown1 ⊢
      clear hR hlenk
      go_wp2_with fail
      go_ret
      exact ⟨a1, cap1, rfl, hown1, hgr1⟩

set_option maxHeartbeats 400000 in
theorem zap_any (B n cap : Nat) (nt : Int) (a ax : Option Addr) (capx : Nat) (pre : List Value) (zs : List Int) (w : World) (hown : w.ownsRow B 5 1 (.slice a n cap) n pre) (hBw : B ≤ w.heap.size) (hI : Il w ax zs) (hne : ∀ x, ax = some x → some x.block ≠ blk a)
    (hx : ∀ x ∈ zs, -9223372036854775808 ≤ x ∧ x ≤ 9223372036854775807) (hlim : n + 23 * zs.length + 25 ≤ 140737488355328) (htab : Lib.TabBelow Tryd.prog B w powName .u64 Lib.pow10Tab) :
    Calls Tryd.prog 18 #[.int .i64 nt, .slice a n cap, .slice ax zs.length capx] w fun e w' => ∃ a' cap', e = .returned (.slice a' (n + (joinI nt zs).length) cap') ∧ w'.ownsRow B 5 1 (.slice a' (n + (joinI nt zs).length) cap') (n + (joinI nt zs).length) (pre ++ Lib.byteCells (joinI nt zs)) ∧ Gr w w' a a' := by
  have HT : Hid (Lib.TabBelow Tryd.prog B w powName .u64 Lib.pow10Tab) := htab
  have HI : Hid (Il w ax zs) := hI
  have HN : Hid (∀ x, ax = some x → some x.block ≠ blk a) := hne
  have HX : Hid (∀ x ∈ zs, -9223372036854775808 ≤ x ∧ x ≤ 9223372036854775807) := hx
  clear hI hne hx htab
  go_enter Tryd.func18, Tryd.ntmps18
  go_wp2_with fail
  refine (aps_any B n cap nt a ax capx pre zs w hown hBw HI.out HN.out HX.out hlim HT.out).mono ?_
  rintro e w2 ⟨a2, cap2, rfl, hown2, hgr2⟩
  go_wp2_with fail
  go_ret
  exact ⟨a2, cap2, rfl, hown2, hgr2⟩

end Go.Proofs.Qxb6001227aDoor
