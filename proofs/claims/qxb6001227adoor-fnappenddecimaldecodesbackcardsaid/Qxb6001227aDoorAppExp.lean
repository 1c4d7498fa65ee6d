/-
  appendDecimal (26), case by case.
-/
import Derived.Test.Qxb6001227aDoorAppInt
import Derived.Test.Qxb6001227aDoorItoa
namespace Go.Proofs.Qxb6001227aDoor
open Go.RowKit

/-- The exponent's text. -/
def expT (y : Int) : List UInt8 := if y < 10 then 48 :: Lib.itoa y else Lib.itoa y

theorem AS.tab {B : Nat} {w : World} {a : Option Addr} {pre : List Value} {n cap0 : Nat} {T : List UInt8} {W : World} {b : Option Addr} {m cap : Nat} {o : Obj} (h : AS B (w.alloc o) a pre n T W b m cap) (hown : w.ownsRow B 5 1 (.slice a n cap0) n pre) (hB : B ≤ w.heap.size) (ht : Lib.TabBelow Tryd.prog B w powName .u64 Lib.pow10Tab) : Lib.TabBelow Tryd.prog B W powName .u64 Lib.pow10Tab :=
  ht.on (((Gr.alloc w a o).trans h.gr).below hB (fun g hg => (hown.lt g (by rw [ownBlock_slice]; exact hg)).1))


set_option maxRecDepth 100000 in
set_option maxHeartbeats 4000000 in
theorem ad_exp1_43_s (B n cap : Nat) (neg : Bool) (s : ByteArray) (D : List UInt8) (x : Int) (a : Option Addr) (pre : List Value) (w : World) (hs : s.data.toList = D) (hown : w.ownsRow B 5 1 (.slice a n cap) n pre) (hBw : B ≤ w.heap.size) (hlim : n + 4000000 ≤ 140737488355328) (hD1 : D.length ≤ 1048576) (h0 : -9223372036854775808 < x) (h1 : x ≤ 9223372036854775807) (hx : x < -4 ∨ 5 < x) (htab : Lib.TabBelow Tryd.prog B w powName .u64 Lib.pow10Tab) (d0 : UInt8) (R : List UInt8) (hDR : D = d0 :: R) (hR : R = []) (hxs : 0 ≤ x) (c10 : x < 10) :
    Calls Tryd.prog 26 #[.slice a n cap, .agg #[.bool neg, .string s, .int .i64 x]] w fun e w' => Wrote B w a pre n (sgn neg ++ ([d0] ++ 101 :: 43 :: expT x) ++ [77]) e w' := by
  have HSD : Hid (s.data.toList = D) := hs
  have hsz := str_size hs
  have HO : Hid (w.ownsRow B 5 1 (.slice a n cap) n pre) := hown
  have HS : Hid (AS B (w.alloc (.cells #[.bool neg, .string s, .int .i64 x] 28)) a pre n [] (w.alloc (.cells #[.bool neg, .string s, .int .i64 x] 28)) a n cap) := ⟨by simpa [Lib.byteCells] using hown.alloc _, rfl, Gr.refl _ _, by simp; omega⟩
  have HBw : Hid (B ≤ w.heap.size) := hBw
  have hse : s.toList.isEmpty = false := by rw [ByteArray.toList_eq, hs, hDR]; rfl
  have hg0 := str_at hs (k := 0) (c := d0) (by rw [hDR]; rfl)
  have HRg : Hid (-9223372036854775808 < x ∧ x ≤ 9223372036854775807 ∧ (x < -4 ∨ 5 < x)) := ⟨h0, h1, hx⟩
  have HTb : Hid (Lib.TabBelow Tryd.prog B w powName .u64 Lib.pow10Tab) := htab
  have HL : Hid (R.length ≤ 1048576) := by rw [hDR] at hD1; simp at hD1; show _ ≤ _; omega
  have c1 : ¬ x < -4 := by omega
  have c2 : 5 < x := by omega
  have c3 : ¬ x < 0 := by omega
  rw [hDR, hR] at hsz
  have hsz1 : s.size = 1 := hsz
  subst hR
  clear hs hown hBw htab hx hDR hsz hD1
  cases neg with
  | false =>
    go_enter Tryd.func26, Tryd.ntmps26
    go_wp2_with fail
    go_quiet (fail)
    have HS1 := HS.out.drewN nq
    clear HS
    have HS : Hid _ := HS1
    clear HS1
    go_wp2_with (first
      | (at_builtin; refine wp_lit rfl _ _ rfl HS.out _ [d0] rfl _ rfl rfl _ rfl (by simp) (by have h := HL.out; simp at h ⊢; omega) ?_; clear HS; intro b m cap W HS0; have HS : Hid _ := HS0; clear HS0)
      | (at_builtin; refine wp_lit rfl _ _ rfl HS.out _ [101, 43] rfl _ rfl rfl _ rfl (by simp) (by have h := HL.out; simp at h ⊢; omega) ?_; clear HS; intro b m cap W HS0; have HS : Hid _ := HS0; clear HS0)
      | (at_builtin; refine wp_lit rfl _ _ rfl HS.out _ [48] rfl _ rfl rfl _ rfl (by simp) (by have h := HL.out; simp at h ⊢; omega) ?_; clear HS; intro b m cap W HS0; have HS : Hid _ := HS0; clear HS0))
    have hb := HS.out.gr.g.size
    simp at hb
    refine (ai_any B _ _ x (by omega) (by omega) _ _ _ HS.out.own (by have := HBw.out; omega) (by have h := HL.out; have h2 := HS.out.len; simp at h h2; omega) (HS.out.tab HO.out HBw.out HTb.out)).mono ?_
    rintro e w2 ⟨a2, cap2, rfl, hown2, hgr2⟩
    have HS2 : Hid _ := HS.out.more hown2 rfl hgr2
    clear HS hown2 hgr2 hb
    have HS : Hid _ := HS2
    clear HS2
    have HI : Hid ((Lib.itoa x).length ≤ 21) := Lib.itoa_length_le _ (by omega) (by omega)
    go_wp2_with (first
      | (at_builtin; refine wp_lit rfl _ _ rfl HS.out _ [77] rfl _ rfl rfl _ rfl (by simp) (by have h := HL.out; have h2 := HI.out; simp at h ⊢; omega) ?_; clear HS; intro b m cap W HS0; have HS : Hid _ := HS0; clear HS0))
    go_ret
    exact HS.out.out HBw.out (by simp [sgn, expT, c10])
  | true =>
    go_enter Tryd.func26, Tryd.ntmps26
    go_wp2_with (first
      | (at_builtin; refine wp_lit rfl _ _ rfl HS.out _ [45] rfl _ rfl rfl _ rfl (by simp) (by simp; omega) ?_; clear HS; intro b m cap W HS0
         have hbx1 : W.cell? ⟨w.heap.size, 1, none⟩ = some (.string s) := by rw [HS0.box HO.out 1]; rfl
         have hbx2 : W.cell? ⟨w.heap.size, 2, none⟩ = some (.int .i64 x) := by rw [HS0.box HO.out 2]; rfl
         have HS : Hid _ := HS0; clear HS0))
    go_quiet (fail)
    have HS1 := HS.out.drewN nq
    clear HS hbx1 hbx2
    have HS : Hid _ := HS1
    clear HS1
    go_wp2_with (first
      | (at_builtin; refine wp_lit rfl _ _ rfl HS.out _ [d0] rfl _ rfl rfl _ rfl (by simp) (by have h := HL.out; simp at h ⊢; omega) ?_; clear HS; intro b m cap W HS0; have HS : Hid _ := HS0; clear HS0)
      | (at_builtin; refine wp_lit rfl _ _ rfl HS.out _ [101, 43] rfl _ rfl rfl _ rfl (by simp) (by have h := HL.out; simp at h ⊢; omega) ?_; clear HS; intro b m cap W HS0; have HS : Hid _ := HS0; clear HS0)
      | (at_builtin; refine wp_lit rfl _ _ rfl HS.out _ [48] rfl _ rfl rfl _ rfl (by simp) (by have h := HL.out; simp at h ⊢; omega) ?_; clear HS; intro b m cap W HS0; have HS : Hid _ := HS0; clear HS0))
    have hb := HS.out.gr.g.size
    simp at hb
    refine (ai_any B _ _ x (by omega) (by omega) _ _ _ HS.out.own (by have := HBw.out; omega) (by have h := HL.out; have h2 := HS.out.len; simp at h h2; omega) (HS.out.tab HO.out HBw.out HTb.out)).mono ?_
    rintro e w2 ⟨a2, cap2, rfl, hown2, hgr2⟩
    have HS2 : Hid _ := HS.out.more hown2 rfl hgr2
    clear HS hown2 hgr2 hb
    have HS : Hid _ := HS2
    clear HS2
    have HI : Hid ((Lib.itoa x).length ≤ 21) := Lib.itoa_length_le _ (by omega) (by omega)
    go_wp2_with (first
      | (at_builtin; refine wp_lit rfl _ _ rfl HS.out _ [77] rfl _ rfl rfl _ rfl (by simp) (by have h := HL.out; have h2 := HI.out; simp at h ⊢; omega) ?_; clear HS; intro b m cap W HS0; have HS : Hid _ := HS0; clear HS0))
    go_ret
    exact HS.out.out HBw.out (by simp [sgn, expT, c10])

set_option maxRecDepth 100000 in
set_option maxHeartbeats 4000000 in
theorem ad_expr_43_s (B n cap : Nat) (neg : Bool) (s : ByteArray) (D : List UInt8) (x : Int) (a : Option Addr) (pre : List Value) (w : World) (hs : s.data.toList = D) (hown : w.ownsRow B 5 1 (.slice a n cap) n pre) (hBw : B ≤ w.heap.size) (hlim : n + 4000000 ≤ 140737488355328) (hD1 : D.length ≤ 1048576) (h0 : -9223372036854775808 < x) (h1 : x ≤ 9223372036854775807) (hx : x < -4 ∨ 5 < x) (htab : Lib.TabBelow Tryd.prog B w powName .u64 Lib.pow10Tab) (d0 : UInt8) (R : List UInt8) (hDR : D = d0 :: R) (hR : R ≠ []) (hxs : 0 ≤ x) (c10 : x < 10) :
    Calls Tryd.prog 26 #[.slice a n cap, .agg #[.bool neg, .string s, .int .i64 x]] w fun e w' => Wrote B w a pre n (sgn neg ++ ((d0 :: 46 :: R) ++ 101 :: 43 :: expT x) ++ [77]) e w' := by
  have HSD : Hid (s.data.toList = D) := hs
  have hsz := str_size hs
  have HO : Hid (w.ownsRow B 5 1 (.slice a n cap) n pre) := hown
  have HS : Hid (AS B (w.alloc (.cells #[.bool neg, .string s, .int .i64 x] 28)) a pre n [] (w.alloc (.cells #[.bool neg, .string s, .int .i64 x] 28)) a n cap) := ⟨by simpa [Lib.byteCells] using hown.alloc _, rfl, Gr.refl _ _, by simp; omega⟩
  have HBw : Hid (B ≤ w.heap.size) := hBw
  have hse : s.toList.isEmpty = false := by rw [ByteArray.toList_eq, hs, hDR]; rfl
  have hg0 := str_at hs (k := 0) (c := d0) (by rw [hDR]; rfl)
  have HRg : Hid (-9223372036854775808 < x ∧ x ≤ 9223372036854775807 ∧ (x < -4 ∨ 5 < x)) := ⟨h0, h1, hx⟩
  have HTb : Hid (Lib.TabBelow Tryd.prog B w powName .u64 Lib.pow10Tab) := htab
  have HL : Hid (R.length ≤ 1048576) := by rw [hDR] at hD1; simp at hD1; show _ ≤ _; omega
  have c1 : ¬ x < -4 := by omega
  have c2 : 5 < x := by omega
  have c3 : ¬ x < 0 := by omega
  obtain ⟨r, hr⟩ : ∃ r, R.length = r := ⟨_, rfl⟩
  have hr1 : 1 ≤ r := by rw [← hr]; exact List.length_pos_iff.2 hR
  have hsz1 : s.size = r + 1 := by rw [hsz, hDR, ← hr]; rfl
  obtain ⟨t1, ht1⟩ : ∃ t1, s.extract 1 (r + 1) = t1 := ⟨_, rfl⟩
  have H1 : Hid (t1.data.toList = R) := by show _ = _; rw [← ht1, ext_data, hs, hDR]; simp [← hr]
  have HRL : Hid (R.length = r) := hr
  have hri : (1 : Int) < (r : Int) + 1 := by omega
  have hri2 : (1 : Int) ≤ (r : Int) + 1 := by omega
  clear hs hown hBw htab hx hDR hsz hD1 hR hr
  cases neg with
  | false =>
    go_enter Tryd.func26, Tryd.ntmps26
    go_wp2_with fail
    go_quiet (fail)
    have HS1 := HS.out.drewN nq
    clear HS
    have HS : Hid _ := HS1
    clear HS1
    go_wp2_with (first
      | (at_builtin; refine wp_lit rfl _ _ rfl HS.out _ [d0] rfl _ rfl rfl _ rfl (by simp) (by have h := HL.out; simp at h ⊢; omega) ?_; clear HS; intro b m cap W HS0; have HS : Hid _ := HS0; clear HS0))
    have HSd : Hid _ := HS.out.drew
    clear HS
    go_region_law (first
      | (refine step_lit rfl _ _ rfl HSd.out _ [46] rfl 1 rfl (by simp [Act.eval]) W.heap.size (by simp [Act.eval]) rfl (by have h := HL.out; simp at h ⊢; omega) ?_; clear HSd; intro b m cap W HS0; have HS : Hid _ := HS0; clear HS0)
      | (refine step_str rfl _ _ rfl HS.out t1 R H1.out (by simp [Act.eval]) (by simp [Act.eval]) (by have h := HL.out; simp at h ⊢; omega) ?_; clear HS; intro b m cap W HS0; have HS : Hid _ := HS0; clear HS0))
    go_wp2_with (first
      | (at_builtin; refine wp_lit rfl _ _ rfl HS.out _ [101, 43] rfl _ rfl rfl _ rfl (by simp) (by have h := HL.out; simp at h ⊢; omega) ?_; clear HS; intro b m cap W HS0; have HS : Hid _ := HS0; clear HS0)
      | (at_builtin; refine wp_lit rfl _ _ rfl HS.out _ [48] rfl _ rfl rfl _ rfl (by simp) (by have h := HL.out; simp at h ⊢; omega) ?_; clear HS; intro b m cap W HS0; have HS : Hid _ := HS0; clear HS0))
    have hb := HS.out.gr.g.size
    simp at hb
    refine (ai_any B _ _ x (by omega) (by omega) _ _ _ HS.out.own (by have := HBw.out; omega) (by have h := HL.out; have h2 := HS.out.len; simp at h h2; omega) (HS.out.tab HO.out HBw.out HTb.out)).mono ?_
    rintro e w2 ⟨a2, cap2, rfl, hown2, hgr2⟩
    have HS2 : Hid _ := HS.out.more hown2 rfl hgr2
    clear HS hown2 hgr2 hb
    have HS : Hid _ := HS2
    clear HS2
    have HI : Hid ((Lib.itoa x).length ≤ 21) := Lib.itoa_length_le _ (by omega) (by omega)
    go_wp2_with (first
      | (at_builtin; refine wp_lit rfl _ _ rfl HS.out _ [77] rfl _ rfl rfl _ rfl (by simp) (by have h := HL.out; have h2 := HI.out; simp at h ⊢; omega) ?_; clear HS; intro b m cap W HS0; have HS : Hid _ := HS0; clear HS0))
    go_ret
    exact HS.out.out HBw.out (by simp [sgn, expT, c10])
  | true =>
    go_enter Tryd.func26, Tryd.ntmps26
    go_wp2_with (first
      | (at_builtin; refine wp_lit rfl _ _ rfl HS.out _ [45] rfl _ rfl rfl _ rfl (by simp) (by simp; omega) ?_; clear HS; intro b m cap W HS0
         have hbx1 : W.cell? ⟨w.heap.size, 1, none⟩ = some (.string s) := by rw [HS0.box HO.out 1]; rfl
         have hbx2 : W.cell? ⟨w.heap.size, 2, none⟩ = some (.int .i64 x) := by rw [HS0.box HO.out 2]; rfl
         have HS : Hid _ := HS0; clear HS0))
    go_quiet (fail)
    have HS1 := HS.out.drewN nq
    clear HS hbx1 hbx2
    have HS : Hid _ := HS1
    clear HS1
    go_wp2_with (first
      | (at_builtin; refine wp_lit rfl _ _ rfl HS.out _ [d0] rfl _ rfl rfl _ rfl (by simp) (by have h := HL.out; simp at h ⊢; omega) ?_; clear HS; intro b m cap W HS0; have HS : Hid _ := HS0; clear HS0))
    have HSd : Hid _ := HS.out.drew
    clear HS
    go_region_law (first
      | (refine step_lit rfl _ _ rfl HSd.out _ [46] rfl 1 rfl (by simp [Act.eval]) W.heap.size (by simp [Act.eval]) rfl (by have h := HL.out; simp at h ⊢; omega) ?_; clear HSd; intro b m cap W HS0; have HS : Hid _ := HS0; clear HS0)
      | (refine step_str rfl _ _ rfl HS.out t1 R H1.out (by simp [Act.eval]) (by simp [Act.eval]) (by have h := HL.out; simp at h ⊢; omega) ?_; clear HS; intro b m cap W HS0; have HS : Hid _ := HS0; clear HS0))
    go_wp2_with (first
      | (at_builtin; refine wp_lit rfl _ _ rfl HS.out _ [101, 43] rfl _ rfl rfl _ rfl (by simp) (by have h := HL.out; simp at h ⊢; omega) ?_; clear HS; intro b m cap W HS0; have HS : Hid _ := HS0; clear HS0)
      | (at_builtin; refine wp_lit rfl _ _ rfl HS.out _ [48] rfl _ rfl rfl _ rfl (by simp) (by have h := HL.out; simp at h ⊢; omega) ?_; clear HS; intro b m cap W HS0; have HS : Hid _ := HS0; clear HS0))
    have hb := HS.out.gr.g.size
    simp at hb
    refine (ai_any B _ _ x (by omega) (by omega) _ _ _ HS.out.own (by have := HBw.out; omega) (by have h := HL.out; have h2 := HS.out.len; simp at h h2; omega) (HS.out.tab HO.out HBw.out HTb.out)).mono ?_
    rintro e w2 ⟨a2, cap2, rfl, hown2, hgr2⟩
    have HS2 : Hid _ := HS.out.more hown2 rfl hgr2
    clear HS hown2 hgr2 hb
    have HS : Hid _ := HS2
    clear HS2
    have HI : Hid ((Lib.itoa x).length ≤ 21) := Lib.itoa_length_le _ (by omega) (by omega)
    go_wp2_with (first
      | (at_builtin; refine wp_lit rfl _ _ rfl HS.out _ [77] rfl _ rfl rfl _ rfl (by simp) (by have h := HL.out; have h2 := HI.out; simp at h ⊢; omega) ?_; clear HS; intro b m cap W HS0; have HS : Hid _ := HS0; clear HS0))
    go_ret
    exact HS.out.out HBw.out (by simp [sgn, expT, c10])

set_option maxRecDepth 100000 in
set_option maxHeartbeats 4000000 in
theorem ad_exp1_43_l (B n cap : Nat) (neg : Bool) (s : ByteArray) (D : List UInt8) (x : Int) (a : Option Addr) (pre : List Value) (w : World) (hs : s.data.toList = D) (hown : w.ownsRow B 5 1 (.slice a n cap) n pre) (hBw : B ≤ w.heap.size) (hlim : n + 4000000 ≤ 140737488355328) (hD1 : D.length ≤ 1048576) (h0 : -9223372036854775808 < x) (h1 : x ≤ 9223372036854775807) (hx : x < -4 ∨ 5 < x) (htab : Lib.TabBelow Tryd.prog B w powName .u64 Lib.pow10Tab) (d0 : UInt8) (R : List UInt8) (hDR : D = d0 :: R) (hR : R = []) (hxs : 0 ≤ x) (c10 : ¬ x < 10) :
    Calls Tryd.prog 26 #[.slice a n cap, .agg #[.bool neg, .string s, .int .i64 x]] w fun e w' => Wrote B w a pre n (sgn neg ++ ([d0] ++ 101 :: 43 :: expT x) ++ [77]) e w' := by
  have HSD : Hid (s.data.toList = D) := hs
  have hsz := str_size hs
  have HO : Hid (w.ownsRow B 5 1 (.slice a n cap) n pre) := hown
  have HS : Hid (AS B (w.alloc (.cells #[.bool neg, .string s, .int .i64 x] 28)) a pre n [] (w.alloc (.cells #[.bool neg, .string s, .int .i64 x] 28)) a n cap) := ⟨by simpa [Lib.byteCells] using hown.alloc _, rfl, Gr.refl _ _, by simp; omega⟩
  have HBw : Hid (B ≤ w.heap.size) := hBw
  have hse : s.toList.isEmpty = false := by rw [ByteArray.toList_eq, hs, hDR]; rfl
  have hg0 := str_at hs (k := 0) (c := d0) (by rw [hDR]; rfl)
  have HRg : Hid (-9223372036854775808 < x ∧ x ≤ 9223372036854775807 ∧ (x < -4 ∨ 5 < x)) := ⟨h0, h1, hx⟩
  have HTb : Hid (Lib.TabBelow Tryd.prog B w powName .u64 Lib.pow10Tab) := htab
  have HL : Hid (R.length ≤ 1048576) := by rw [hDR] at hD1; simp at hD1; show _ ≤ _; omega
  have c1 : ¬ x < -4 := by omega
  have c2 : 5 < x := by omega
  have c3 : ¬ x < 0 := by omega
  rw [hDR, hR] at hsz
  have hsz1 : s.size = 1 := hsz
  subst hR
  clear hs hown hBw htab hx hDR hsz hD1
  cases neg with
  | false =>
    go_enter Tryd.func26, Tryd.ntmps26
    go_wp2_with fail
    go_quiet (fail)
    have HS1 := HS.out.drewN nq
    clear HS
    have HS : Hid _ := HS1
    clear HS1
    go_wp2_with (first
      | (at_builtin; refine wp_lit rfl _ _ rfl HS.out _ [d0] rfl _ rfl rfl _ rfl (by simp) (by have h := HL.out; simp at h ⊢; omega) ?_; clear HS; intro b m cap W HS0; have HS : Hid _ := HS0; clear HS0)
      | (at_builtin; refine wp_lit rfl _ _ rfl HS.out _ [101, 43] rfl _ rfl rfl _ rfl (by simp) (by have h := HL.out; simp at h ⊢; omega) ?_; clear HS; intro b m cap W HS0; have HS : Hid _ := HS0; clear HS0))
    have hb := HS.out.gr.g.size
    simp at hb
    refine (ai_any B _ _ x (by omega) (by omega) _ _ _ HS.out.own (by have := HBw.out; omega) (by have h := HL.out; have h2 := HS.out.len; simp at h h2; omega) (HS.out.tab HO.out HBw.out HTb.out)).mono ?_
    rintro e w2 ⟨a2, cap2, rfl, hown2, hgr2⟩
    have HS2 : Hid _ := HS.out.more hown2 rfl hgr2
    clear HS hown2 hgr2 hb
    have HS : Hid _ := HS2
    clear HS2
    have HI : Hid ((Lib.itoa x).length ≤ 21) := Lib.itoa_length_le _ (by omega) (by omega)
    go_wp2_with (first
      | (at_builtin; refine wp_lit rfl _ _ rfl HS.out _ [77] rfl _ rfl rfl _ rfl (by simp) (by have h := HL.out; have h2 := HI.out; simp at h ⊢; omega) ?_; clear HS; intro b m cap W HS0; have HS : Hid _ := HS0; clear HS0))
    go_ret
    exact HS.out.out HBw.out (by simp [sgn, expT, c10])
  | true =>
    go_enter Tryd.func26, Tryd.ntmps26
    go_wp2_with (first
      | (at_builtin; refine wp_lit rfl _ _ rfl HS.out _ [45] rfl _ rfl rfl _ rfl (by simp) (by simp; omega) ?_; clear HS; intro b m cap W HS0
         have hbx1 : W.cell? ⟨w.heap.size, 1, none⟩ = some (.string s) := by rw [HS0.box HO.out 1]; rfl
         have hbx2 : W.cell? ⟨w.heap.size, 2, none⟩ = some (.int .i64 x) := by rw [HS0.box HO.out 2]; rfl
         have HS : Hid _ := HS0; clear HS0))
    go_quiet (fail)
    have HS1 := HS.out.drewN nq
    clear HS hbx1 hbx2
    have HS : Hid _ := HS1
    clear HS1
    go_wp2_with (first
      | (at_builtin; refine wp_lit rfl _ _ rfl HS.out _ [d0] rfl _ rfl rfl _ rfl (by simp) (by have h := HL.out; simp at h ⊢; omega) ?_; clear HS; intro b m cap W HS0; have HS : Hid _ := HS0; clear HS0)
      | (at_builtin; refine wp_lit rfl _ _ rfl HS.out _ [101, 43] rfl _ rfl rfl _ rfl (by simp) (by have h := HL.out; simp at h ⊢; omega) ?_; clear HS; intro b m cap W HS0; have HS : Hid _ := HS0; clear HS0))
    have hb := HS.out.gr.g.size
    simp at hb
    refine (ai_any B _ _ x (by omega) (by omega) _ _ _ HS.out.own (by have := HBw.out; omega) (by have h := HL.out; have h2 := HS.out.len; simp at h h2; omega) (HS.out.tab HO.out HBw.out HTb.out)).mono ?_
    rintro e w2 ⟨a2, cap2, rfl, hown2, hgr2⟩
    have HS2 : Hid _ := HS.out.more hown2 rfl hgr2
    clear HS hown2 hgr2 hb
    have HS : Hid _ := HS2
    clear HS2
    have HI : Hid ((Lib.itoa x).length ≤ 21) := Lib.itoa_length_le _ (by omega) (by omega)
    go_wp2_with (first
      | (at_builtin; refine wp_lit rfl _ _ rfl HS.out _ [77] rfl _ rfl rfl _ rfl (by simp) (by have h := HL.out; have h2 := HI.out; simp at h ⊢; omega) ?_; clear HS; intro b m cap W HS0; have HS : Hid _ := HS0; clear HS0))
    go_ret
    exact HS.out.out HBw.out (by simp [sgn, expT, c10])

set_option maxRecDepth 100000 in
set_option maxHeartbeats 4000000 in
theorem ad_expr_43_l (B n cap : Nat) (neg : Bool) (s : ByteArray) (D : List UInt8) (x : Int) (a : Option Addr) (pre : List Value) (w : World) (hs : s.data.toList = D) (hown : w.ownsRow B 5 1 (.slice a n cap) n pre) (hBw : B ≤ w.heap.size) (hlim : n + 4000000 ≤ 140737488355328) (hD1 : D.length ≤ 1048576) (h0 : -9223372036854775808 < x) (h1 : x ≤ 9223372036854775807) (hx : x < -4 ∨ 5 < x) (htab : Lib.TabBelow Tryd.prog B w powName .u64 Lib.pow10Tab) (d0 : UInt8) (R : List UInt8) (hDR : D = d0 :: R) (hR : R ≠ []) (hxs : 0 ≤ x) (c10 : ¬ x < 10) :
    Calls Tryd.prog 26 #[.slice a n cap, .agg #[.bool neg, .string s, .int .i64 x]] w fun e w' => Wrote B w a pre n (sgn neg ++ ((d0 :: 46 :: R) ++ 101 :: 43 :: expT x) ++ [77]) e w' := by
  have HSD : Hid (s.data.toList = D) := hs
  have hsz := str_size hs
  have HO : Hid (w.ownsRow B 5 1 (.slice a n cap) n pre) := hown
  have HS : Hid (AS B (w.alloc (.cells #[.bool neg, .string s, .int .i64 x] 28)) a pre n [] (w.alloc (.cells #[.bool neg, .string s, .int .i64 x] 28)) a n cap) := ⟨by simpa [Lib.byteCells] using hown.alloc _, rfl, Gr.refl _ _, by simp; omega⟩
  have HBw : Hid (B ≤ w.heap.size) := hBw
  have hse : s.toList.isEmpty = false := by rw [ByteArray.toList_eq, hs, hDR]; rfl
  have hg0 := str_at hs (k := 0) (c := d0) (by rw [hDR]; rfl)
  have HRg : Hid (-9223372036854775808 < x ∧ x ≤ 9223372036854775807 ∧ (x < -4 ∨ 5 < x)) := ⟨h0, h1, hx⟩
  have HTb : Hid (Lib.TabBelow Tryd.prog B w powName .u64 Lib.pow10Tab) := htab
  have HL : Hid (R.length ≤ 1048576) := by rw [hDR] at hD1; simp at hD1; show _ ≤ _; omega
  have c1 : ¬ x < -4 := by omega
  have c2 : 5 < x := by omega
  have c3 : ¬ x < 0 := by omega
  obtain ⟨r, hr⟩ : ∃ r, R.length = r := ⟨_, rfl⟩
  have hr1 : 1 ≤ r := by rw [← hr]; exact List.length_pos_iff.2 hR
  have hsz1 : s.size = r + 1 := by rw [hsz, hDR, ← hr]; rfl
  obtain ⟨t1, ht1⟩ : ∃ t1, s.extract 1 (r + 1) = t1 := ⟨_, rfl⟩
  have H1 : Hid (t1.data.toList = R) := by show _ = _; rw [← ht1, ext_data, hs, hDR]; simp [← hr]
  have HRL : Hid (R.length = r) := hr
  have hri : (1 : Int) < (r : Int) + 1 := by omega
  have hri2 : (1 : Int) ≤ (r : Int) + 1 := by omega
  clear hs hown hBw htab hx hDR hsz hD1 hR hr
  cases neg with
  | false =>
    go_enter Tryd.func26, Tryd.ntmps26
    go_wp2_with fail
    go_quiet (fail)
    have HS1 := HS.out.drewN nq
    clear HS
    have HS : Hid _ := HS1
    clear HS1
    go_wp2_with (first
      | (at_builtin; refine wp_lit rfl _ _ rfl HS.out _ [d0] rfl _ rfl rfl _ rfl (by simp) (by have h := HL.out; simp at h ⊢; omega) ?_; clear HS; intro b m cap W HS0; have HS : Hid _ := HS0; clear HS0))
    have HSd : Hid _ := HS.out.drew
    clear HS
    go_region_law (first
      | (refine step_lit rfl _ _ rfl HSd.out _ [46] rfl 1 rfl (by simp [Act.eval]) W.heap.size (by simp [Act.eval]) rfl (by have h := HL.out; simp at h ⊢; omega) ?_; clear HSd; intro b m cap W HS0; have HS : Hid _ := HS0; clear HS0)
      | (refine step_str rfl _ _ rfl HS.out t1 R H1.out (by simp [Act.eval]) (by simp [Act.eval]) (by have h := HL.out; simp at h ⊢; omega) ?_; clear HS; intro b m cap W HS0; have HS : Hid _ := HS0; clear HS0))
    go_wp2_with (first
      | (at_builtin; refine wp_lit rfl _ _ rfl HS.out _ [101, 43] rfl _ rfl rfl _ rfl (by simp) (by have h := HL.out; simp at h ⊢; omega) ?_; clear HS; intro b m cap W HS0; have HS : Hid _ := HS0; clear HS0))
    have hb := HS.out.gr.g.size
    simp at hb
    refine (ai_any B _ _ x (by omega) (by omega) _ _ _ HS.out.own (by have := HBw.out; omega) (by have h := HL.out; have h2 := HS.out.len; simp at h h2; omega) (HS.out.tab HO.out HBw.out HTb.out)).mono ?_
    rintro e w2 ⟨a2, cap2, rfl, hown2, hgr2⟩
    have HS2 : Hid _ := HS.out.more hown2 rfl hgr2
    clear HS hown2 hgr2 hb
    have HS : Hid _ := HS2
    clear HS2
    have HI : Hid ((Lib.itoa x).length ≤ 21) := Lib.itoa_length_le _ (by omega) (by omega)
    go_wp2_with (first
      | (at_builtin; refine wp_lit rfl _ _ rfl HS.out _ [77] rfl _ rfl rfl _ rfl (by simp) (by have h := HL.out; have h2 := HI.out; simp at h ⊢; omega) ?_; clear HS; intro b m cap W HS0; have HS : Hid _ := HS0; clear HS0))
    go_ret
    exact HS.out.out HBw.out (by simp [sgn, expT, c10])
  | true =>
    go_enter Tryd.func26, Tryd.ntmps26
    go_wp2_with (first
      | (at_builtin; refine wp_lit rfl _ _ rfl HS.out _ [45] rfl _ rfl rfl _ rfl (by simp) (by simp; omega) ?_; clear HS; intro b m cap W HS0
         have hbx1 : W.cell? ⟨w.heap.size, 1, none⟩ = some (.string s) := by rw [HS0.box HO.out 1]; rfl
         have hbx2 : W.cell? ⟨w.heap.size, 2, none⟩ = some (.int .i64 x) := by rw [HS0.box HO.out 2]; rfl
         have HS : Hid _ := HS0; clear HS0))
    go_quiet (fail)
    have HS1 := HS.out.drewN nq
    clear HS hbx1 hbx2
    have HS : Hid _ := HS1
    clear HS1
    go_wp2_with (first
      | (at_builtin; refine wp_lit rfl _ _ rfl HS.out _ [d0] rfl _ rfl rfl _ rfl (by simp) (by have h := HL.out; simp at h ⊢; omega) ?_; clear HS; intro b m cap W HS0; have HS : Hid _ := HS0; clear HS0))
    have HSd : Hid _ := HS.out.drew
    clear HS
    go_region_law (first
      | (refine step_lit rfl _ _ rfl HSd.out _ [46] rfl 1 rfl (by simp [Act.eval]) W.heap.size (by simp [Act.eval]) rfl (by have h := HL.out; simp at h ⊢; omega) ?_; clear HSd; intro b m cap W HS0; have HS : Hid _ := HS0; clear HS0)
      | (refine step_str rfl _ _ rfl HS.out t1 R H1.out (by simp [Act.eval]) (by simp [Act.eval]) (by have h := HL.out; simp at h ⊢; omega) ?_; clear HS; intro b m cap W HS0; have HS : Hid _ := HS0; clear HS0))
    go_wp2_with (first
      | (at_builtin; refine wp_lit rfl _ _ rfl HS.out _ [101, 43] rfl _ rfl rfl _ rfl (by simp) (by have h := HL.out; simp at h ⊢; omega) ?_; clear HS; intro b m cap W HS0; have HS : Hid _ := HS0; clear HS0))
    have hb := HS.out.gr.g.size
    simp at hb
    refine (ai_any B _ _ x (by omega) (by omega) _ _ _ HS.out.own (by have := HBw.out; omega) (by have h := HL.out; have h2 := HS.out.len; simp at h h2; omega) (HS.out.tab HO.out HBw.out HTb.out)).mono ?_
    rintro e w2 ⟨a2, cap2, rfl, hown2, hgr2⟩
    have HS2 : Hid _ := HS.out.more hown2 rfl hgr2
    clear HS hown2 hgr2 hb
    have HS : Hid _ := HS2
    clear HS2
    have HI : Hid ((Lib.itoa x).length ≤ 21) := Lib.itoa_length_le _ (by omega) (by omega)
    go_wp2_with (first
      | (at_builtin; refine wp_lit rfl _ _ rfl HS.out _ [77] rfl _ rfl rfl _ rfl (by simp) (by have h := HL.out; have h2 := HI.out; simp at h ⊢; omega) ?_; clear HS; intro b m cap W HS0; have HS : Hid _ := HS0; clear HS0))
    go_ret
    exact HS.out.out HBw.out (by simp [sgn, expT, c10])

set_option maxRecDepth 100000 in
set_option maxHeartbeats 4000000 in
theorem ad_exp1_45_s (B n cap : Nat) (neg : Bool) (s : ByteArray) (D : List UInt8) (x : Int) (a : Option Addr) (pre : List Value) (w : World) (hs : s.data.toList = D) (hown : w.ownsRow B 5 1 (.slice a n cap) n pre) (hBw : B ≤ w.heap.size) (hlim : n + 4000000 ≤ 140737488355328) (hD1 : D.length ≤ 1048576) (h0 : -9223372036854775808 < x) (h1 : x ≤ 9223372036854775807) (hx : x < -4 ∨ 5 < x) (htab : Lib.TabBelow Tryd.prog B w powName .u64 Lib.pow10Tab) (d0 : UInt8) (R : List UInt8) (hDR : D = d0 :: R) (hR : R = []) (hxs : x < 0) (c10 : (-x) < 10) :
    Calls Tryd.prog 26 #[.slice a n cap, .agg #[.bool neg, .string s, .int .i64 x]] w fun e w' => Wrote B w a pre n (sgn neg ++ ([d0] ++ 101 :: 45 :: expT (-x)) ++ [77]) e w' := by
  have HSD : Hid (s.data.toList = D) := hs
  have hsz := str_size hs
  have HO : Hid (w.ownsRow B 5 1 (.slice a n cap) n pre) := hown
  have HS : Hid (AS B (w.alloc (.cells #[.bool neg, .string s, .int .i64 x] 28)) a pre n [] (w.alloc (.cells #[.bool neg, .string s, .int .i64 x] 28)) a n cap) := ⟨by simpa [Lib.byteCells] using hown.alloc _, rfl, Gr.refl _ _, by simp; omega⟩
  have HBw : Hid (B ≤ w.heap.size) := hBw
  have hse : s.toList.isEmpty = false := by rw [ByteArray.toList_eq, hs, hDR]; rfl
  have hg0 := str_at hs (k := 0) (c := d0) (by rw [hDR]; rfl)
  have HRg : Hid (-9223372036854775808 < x ∧ x ≤ 9223372036854775807 ∧ (x < -4 ∨ 5 < x)) := ⟨h0, h1, hx⟩
  have HTb : Hid (Lib.TabBelow Tryd.prog B w powName .u64 Lib.pow10Tab) := htab
  have HL : Hid (R.length ≤ 1048576) := by rw [hDR] at hD1; simp at hD1; show _ ≤ _; omega
  have c1 : x < -4 := by omega
  rw [hDR, hR] at hsz
  have hsz1 : s.size = 1 := hsz
  subst hR
  clear hs hown hBw htab hx hDR hsz hD1
  cases neg with
  | false =>
    go_enter Tryd.func26, Tryd.ntmps26
    go_wp2_with fail
    go_quiet (fail)
    have HS1 := HS.out.drewN nq
    clear HS
    have HS : Hid _ := HS1
    clear HS1
    go_wp2_with (first
      | (at_builtin; refine wp_lit rfl _ _ rfl HS.out _ [d0] rfl _ rfl rfl _ rfl (by simp) (by have h := HL.out; simp at h ⊢; omega) ?_; clear HS; intro b m cap W HS0; have HS : Hid _ := HS0; clear HS0)
      | (at_builtin; refine wp_lit rfl _ _ rfl HS.out _ [101, 45] rfl _ rfl rfl _ rfl (by simp) (by have h := HL.out; simp at h ⊢; omega) ?_; clear HS; intro b m cap W HS0; have HS : Hid _ := HS0; clear HS0)
      | (at_builtin; refine wp_lit rfl _ _ rfl HS.out _ [48] rfl _ rfl rfl _ rfl (by simp) (by have h := HL.out; simp at h ⊢; omega) ?_; clear HS; intro b m cap W HS0; have HS : Hid _ := HS0; clear HS0))
    have hb := HS.out.gr.g.size
    simp at hb
    refine (ai_any B _ _ (-x) (by omega) (by omega) _ _ _ HS.out.own (by have := HBw.out; omega) (by have h := HL.out; have h2 := HS.out.len; simp at h h2; omega) (HS.out.tab HO.out HBw.out HTb.out)).mono ?_
    rintro e w2 ⟨a2, cap2, rfl, hown2, hgr2⟩
    have HS2 : Hid _ := HS.out.more hown2 rfl hgr2
    clear HS hown2 hgr2 hb
    have HS : Hid _ := HS2
    clear HS2
    have HI : Hid ((Lib.itoa (-x)).length ≤ 21) := Lib.itoa_length_le _ (by omega) (by omega)
    go_wp2_with (first
      | (at_builtin; refine wp_lit rfl _ _ rfl HS.out _ [77] rfl _ rfl rfl _ rfl (by simp) (by have h := HL.out; have h2 := HI.out; simp at h ⊢; omega) ?_; clear HS; intro b m cap W HS0; have HS : Hid _ := HS0; clear HS0))
    go_ret
    exact HS.out.out HBw.out (by simp [sgn, expT, c10])
  | true =>
    go_enter Tryd.func26, Tryd.ntmps26
    go_wp2_with (first
      | (at_builtin; refine wp_lit rfl _ _ rfl HS.out _ [45] rfl _ rfl rfl _ rfl (by simp) (by simp; omega) ?_; clear HS; intro b m cap W HS0
         have hbx1 : W.cell? ⟨w.heap.size, 1, none⟩ = some (.string s) := by rw [HS0.box HO.out 1]; rfl
         have hbx2 : W.cell? ⟨w.heap.size, 2, none⟩ = some (.int .i64 x) := by rw [HS0.box HO.out 2]; rfl
         have HS : Hid _ := HS0; clear HS0))
    go_quiet (fail)
    have HS1 := HS.out.drewN nq
    clear HS hbx1 hbx2
    have HS : Hid _ := HS1
    clear HS1
    go_wp2_with (first
      | (at_builtin; refine wp_lit rfl _ _ rfl HS.out _ [d0] rfl _ rfl rfl _ rfl (by simp) (by have h := HL.out; simp at h ⊢; omega) ?_; clear HS; intro b m cap W HS0; have HS : Hid _ := HS0; clear HS0)
      | (at_builtin; refine wp_lit rfl _ _ rfl HS.out _ [101, 45] rfl _ rfl rfl _ rfl (by simp) (by have h := HL.out; simp at h ⊢; omega) ?_; clear HS; intro b m cap W HS0; have HS : Hid _ := HS0; clear HS0)
      | (at_builtin; refine wp_lit rfl _ _ rfl HS.out _ [48] rfl _ rfl rfl _ rfl (by simp) (by have h := HL.out; simp at h ⊢; omega) ?_; clear HS; intro b m cap W HS0; have HS : Hid _ := HS0; clear HS0))
    have hb := HS.out.gr.g.size
    simp at hb
    refine (ai_any B _ _ (-x) (by omega) (by omega) _ _ _ HS.out.own (by have := HBw.out; omega) (by have h := HL.out; have h2 := HS.out.len; simp at h h2; omega) (HS.out.tab HO.out HBw.out HTb.out)).mono ?_
    rintro e w2 ⟨a2, cap2, rfl, hown2, hgr2⟩
    have HS2 : Hid _ := HS.out.more hown2 rfl hgr2
    clear HS hown2 hgr2 hb
    have HS : Hid _ := HS2
    clear HS2
    have HI : Hid ((Lib.itoa (-x)).length ≤ 21) := Lib.itoa_length_le _ (by omega) (by omega)
    go_wp2_with (first
      | (at_builtin; refine wp_lit rfl _ _ rfl HS.out _ [77] rfl _ rfl rfl _ rfl (by simp) (by have h := HL.out; have h2 := HI.out; simp at h ⊢; omega) ?_; clear HS; intro b m cap W HS0; have HS : Hid _ := HS0; clear HS0))
    go_ret
    exact HS.out.out HBw.out (by simp [sgn, expT, c10])

set_option maxRecDepth 100000 in
set_option maxHeartbeats 4000000 in
theorem ad_expr_45_s (B n cap : Nat) (neg : Bool) (s : ByteArray) (D : List UInt8) (x : Int) (a : Option Addr) (pre : List Value) (w : World) (hs : s.data.toList = D) (hown : w.ownsRow B 5 1 (.slice a n cap) n pre) (hBw : B ≤ w.heap.size) (hlim : n + 4000000 ≤ 140737488355328) (hD1 : D.length ≤ 1048576) (h0 : -9223372036854775808 < x) (h1 : x ≤ 9223372036854775807) (hx : x < -4 ∨ 5 < x) (htab : Lib.TabBelow Tryd.prog B w powName .u64 Lib.pow10Tab) (d0 : UInt8) (R : List UInt8) (hDR : D = d0 :: R) (hR : R ≠ []) (hxs : x < 0) (c10 : (-x) < 10) :
    Calls Tryd.prog 26 #[.slice a n cap, .agg #[.bool neg, .string s, .int .i64 x]] w fun e w' => Wrote B w a pre n (sgn neg ++ ((d0 :: 46 :: R) ++ 101 :: 45 :: expT (-x)) ++ [77]) e w' := by
  have HSD : Hid (s.data.toList = D) := hs
  have hsz := str_size hs
  have HO : Hid (w.ownsRow B 5 1 (.slice a n cap) n pre) := hown
  have HS : Hid (AS B (w.alloc (.cells #[.bool neg, .string s, .int .i64 x] 28)) a pre n [] (w.alloc (.cells #[.bool neg, .string s, .int .i64 x] 28)) a n cap) := ⟨by simpa [Lib.byteCells] using hown.alloc _, rfl, Gr.refl _ _, by simp; omega⟩
  have HBw : Hid (B ≤ w.heap.size) := hBw
  have hse : s.toList.isEmpty = false := by rw [ByteArray.toList_eq, hs, hDR]; rfl
  have hg0 := str_at hs (k := 0) (c := d0) (by rw [hDR]; rfl)
  have HRg : Hid (-9223372036854775808 < x ∧ x ≤ 9223372036854775807 ∧ (x < -4 ∨ 5 < x)) := ⟨h0, h1, hx⟩
  have HTb : Hid (Lib.TabBelow Tryd.prog B w powName .u64 Lib.pow10Tab) := htab
  have HL : Hid (R.length ≤ 1048576) := by rw [hDR] at hD1; simp at hD1; show _ ≤ _; omega
  have c1 : x < -4 := by omega
  obtain ⟨r, hr⟩ : ∃ r, R.length = r := ⟨_, rfl⟩
  have hr1 : 1 ≤ r := by rw [← hr]; exact List.length_pos_iff.2 hR
  have hsz1 : s.size = r + 1 := by rw [hsz, hDR, ← hr]; rfl
  obtain ⟨t1, ht1⟩ : ∃ t1, s.extract 1 (r + 1) = t1 := ⟨_, rfl⟩
  have H1 : Hid (t1.data.toList = R) := by show _ = _; rw [← ht1, ext_data, hs, hDR]; simp [← hr]
  have HRL : Hid (R.length = r) := hr
  have hri : (1 : Int) < (r : Int) + 1 := by omega
  have hri2 : (1 : Int) ≤ (r : Int) + 1 := by omega
  clear hs hown hBw htab hx hDR hsz hD1 hR hr
  cases neg with
  | false =>
    go_enter Tryd.func26, Tryd.ntmps26
    go_wp2_with fail
    go_quiet (fail)
    have HS1 := HS.out.drewN nq
    clear HS
    have HS : Hid _ := HS1
    clear HS1
    go_wp2_with (first
      | (at_builtin; refine wp_lit rfl _ _ rfl HS.out _ [d0] rfl _ rfl rfl _ rfl (by simp) (by have h := HL.out; simp at h ⊢; omega) ?_; clear HS; intro b m cap W HS0; have HS : Hid _ := HS0; clear HS0))
    have HSd : Hid _ := HS.out.drew
    clear HS
    go_region_law (first
      | (refine step_lit rfl _ _ rfl HSd.out _ [46] rfl 1 rfl (by simp [Act.eval]) W.heap.size (by simp [Act.eval]) rfl (by have h := HL.out; simp at h ⊢; omega) ?_; clear HSd; intro b m cap W HS0; have HS : Hid _ := HS0; clear HS0)
      | (refine step_str rfl _ _ rfl HS.out t1 R H1.out (by simp [Act.eval]) (by simp [Act.eval]) (by have h := HL.out; simp at h ⊢; omega) ?_; clear HS; intro b m cap W HS0; have HS : Hid _ := HS0; clear HS0))
    go_wp2_with (first
      | (at_builtin; refine wp_lit rfl _ _ rfl HS.out _ [101, 45] rfl _ rfl rfl _ rfl (by simp) (by have h := HL.out; simp at h ⊢; omega) ?_; clear HS; intro b m cap W HS0; have HS : Hid _ := HS0; clear HS0)
      | (at_builtin; refine wp_lit rfl _ _ rfl HS.out _ [48] rfl _ rfl rfl _ rfl (by simp) (by have h := HL.out; simp at h ⊢; omega) ?_; clear HS; intro b m cap W HS0; have HS : Hid _ := HS0; clear HS0))
    have hb := HS.out.gr.g.size
    simp at hb
    refine (ai_any B _ _ (-x) (by omega) (by omega) _ _ _ HS.out.own (by have := HBw.out; omega) (by have h := HL.out; have h2 := HS.out.len; simp at h h2; omega) (HS.out.tab HO.out HBw.out HTb.out)).mono ?_
    rintro e w2 ⟨a2, cap2, rfl, hown2, hgr2⟩
    have HS2 : Hid _ := HS.out.more hown2 rfl hgr2
    clear HS hown2 hgr2 hb
    have HS : Hid _ := HS2
    clear HS2
    have HI : Hid ((Lib.itoa (-x)).length ≤ 21) := Lib.itoa_length_le _ (by omega) (by omega)
    go_wp2_with (first
      | (at_builtin; refine wp_lit rfl _ _ rfl HS.out _ [77] rfl _ rfl rfl _ rfl (by simp) (by have h := HL.out; have h2 := HI.out; simp at h ⊢; omega) ?_; clear HS; intro b m cap W HS0; have HS : Hid _ := HS0; clear HS0))
    go_ret
    exact HS.out.out HBw.out (by simp [sgn, expT, c10])
  | true =>
    go_enter Tryd.func26, Tryd.ntmps26
    go_wp2_with (first
      | (at_builtin; refine wp_lit rfl _ _ rfl HS.out _ [45] rfl _ rfl rfl _ rfl (by simp) (by simp; omega) ?_; clear HS; intro b m cap W HS0
         have hbx1 : W.cell? ⟨w.heap.size, 1, none⟩ = some (.string s) := by rw [HS0.box HO.out 1]; rfl
         have hbx2 : W.cell? ⟨w.heap.size, 2, none⟩ = some (.int .i64 x) := by rw [HS0.box HO.out 2]; rfl
         have HS : Hid _ := HS0; clear HS0))
    go_quiet (fail)
    have HS1 := HS.out.drewN nq
    clear HS hbx1 hbx2
    have HS : Hid _ := HS1
    clear HS1
    go_wp2_with (first
      | (at_builtin; refine wp_lit rfl _ _ rfl HS.out _ [d0] rfl _ rfl rfl _ rfl (by simp) (by have h := HL.out; simp at h ⊢; omega) ?_; clear HS; intro b m cap W HS0; have HS : Hid _ := HS0; clear HS0))
    have HSd : Hid _ := HS.out.drew
    clear HS
    go_region_law (first
      | (refine step_lit rfl _ _ rfl HSd.out _ [46] rfl 1 rfl (by simp [Act.eval]) W.heap.size (by simp [Act.eval]) rfl (by have h := HL.out; simp at h ⊢; omega) ?_; clear HSd; intro b m cap W HS0; have HS : Hid _ := HS0; clear HS0)
      | (refine step_str rfl _ _ rfl HS.out t1 R H1.out (by simp [Act.eval]) (by simp [Act.eval]) (by have h := HL.out; simp at h ⊢; omega) ?_; clear HS; intro b m cap W HS0; have HS : Hid _ := HS0; clear HS0))
    go_wp2_with (first
      | (at_builtin; refine wp_lit rfl _ _ rfl HS.out _ [101, 45] rfl _ rfl rfl _ rfl (by simp) (by have h := HL.out; simp at h ⊢; omega) ?_; clear HS; intro b m cap W HS0; have HS : Hid _ := HS0; clear HS0)
      | (at_builtin; refine wp_lit rfl _ _ rfl HS.out _ [48] rfl _ rfl rfl _ rfl (by simp) (by have h := HL.out; simp at h ⊢; omega) ?_; clear HS; intro b m cap W HS0; have HS : Hid _ := HS0; clear HS0))
    have hb := HS.out.gr.g.size
    simp at hb
    refine (ai_any B _ _ (-x) (by omega) (by omega) _ _ _ HS.out.own (by have := HBw.out; omega) (by have h := HL.out; have h2 := HS.out.len; simp at h h2; omega) (HS.out.tab HO.out HBw.out HTb.out)).mono ?_
    rintro e w2 ⟨a2, cap2, rfl, hown2, hgr2⟩
    have HS2 : Hid _ := HS.out.more hown2 rfl hgr2
    clear HS hown2 hgr2 hb
    have HS : Hid _ := HS2
    clear HS2
    have HI : Hid ((Lib.itoa (-x)).length ≤ 21) := Lib.itoa_length_le _ (by omega) (by omega)
    go_wp2_with (first
      | (at_builtin; refine wp_lit rfl _ _ rfl HS.out _ [77] rfl _ rfl rfl _ rfl (by simp) (by have h := HL.out; have h2 := HI.out; simp at h ⊢; omega) ?_; clear HS; intro b m cap W HS0; have HS : Hid _ := HS0; clear HS0))
    go_ret
    exact HS.out.out HBw.out (by simp [sgn, expT, c10])

set_option maxRecDepth 100000 in
set_option maxHeartbeats 4000000 in
theorem ad_exp1_45_l (B n cap : Nat) (neg : Bool) (s : ByteArray) (D : List UInt8) (x : Int) (a : Option Addr) (pre : List Value) (w : World) (hs : s.data.toList = D) (hown : w.ownsRow B 5 1 (.slice a n cap) n pre) (hBw : B ≤ w.heap.size) (hlim : n + 4000000 ≤ 140737488355328) (hD1 : D.length ≤ 1048576) (h0 : -9223372036854775808 < x) (h1 : x ≤ 9223372036854775807) (hx : x < -4 ∨ 5 < x) (htab : Lib.TabBelow Tryd.prog B w powName .u64 Lib.pow10Tab) (d0 : UInt8) (R : List UInt8) (hDR : D = d0 :: R) (hR : R = []) (hxs : x < 0) (c10 : ¬ (-x) < 10) :
    Calls Tryd.prog 26 #[.slice a n cap, .agg #[.bool neg, .string s, .int .i64 x]] w fun e w' => Wrote B w a pre n (sgn neg ++ ([d0] ++ 101 :: 45 :: expT (-x)) ++ [77]) e w' := by
  have HSD : Hid (s.data.toList = D) := hs
  have hsz := str_size hs
  have HO : Hid (w.ownsRow B 5 1 (.slice a n cap) n pre) := hown
  have HS : Hid (AS B (w.alloc (.cells #[.bool neg, .string s, .int .i64 x] 28)) a pre n [] (w.alloc (.cells #[.bool neg, .string s, .int .i64 x] 28)) a n cap) := ⟨by simpa [Lib.byteCells] using hown.alloc _, rfl, Gr.refl _ _, by simp; omega⟩
  have HBw : Hid (B ≤ w.heap.size) := hBw
  have hse : s.toList.isEmpty = false := by rw [ByteArray.toList_eq, hs, hDR]; rfl
  have hg0 := str_at hs (k := 0) (c := d0) (by rw [hDR]; rfl)
  have HRg : Hid (-9223372036854775808 < x ∧ x ≤ 9223372036854775807 ∧ (x < -4 ∨ 5 < x)) := ⟨h0, h1, hx⟩
  have HTb : Hid (Lib.TabBelow Tryd.prog B w powName .u64 Lib.pow10Tab) := htab
  have HL : Hid (R.length ≤ 1048576) := by rw [hDR] at hD1; simp at hD1; show _ ≤ _; omega
  have c1 : x < -4 := by omega
  rw [hDR, hR] at hsz
  have hsz1 : s.size = 1 := hsz
  subst hR
  clear hs hown hBw htab hx hDR hsz hD1
  cases neg with
  | false =>
    go_enter Tryd.func26, Tryd.ntmps26
    go_wp2_with fail
    go_quiet (fail)
    have HS1 := HS.out.drewN nq
    clear HS
    have HS : Hid _ := HS1
    clear HS1
    go_wp2_with (first
      | (at_builtin; refine wp_lit rfl _ _ rfl HS.out _ [d0] rfl _ rfl rfl _ rfl (by simp) (by have h := HL.out; simp at h ⊢; omega) ?_; clear HS; intro b m cap W HS0; have HS : Hid _ := HS0; clear HS0)
      | (at_builtin; refine wp_lit rfl _ _ rfl HS.out _ [101, 45] rfl _ rfl rfl _ rfl (by simp) (by have h := HL.out; simp at h ⊢; omega) ?_; clear HS; intro b m cap W HS0; have HS : Hid _ := HS0; clear HS0))
    have hb := HS.out.gr.g.size
    simp at hb
    refine (ai_any B _ _ (-x) (by omega) (by omega) _ _ _ HS.out.own (by have := HBw.out; omega) (by have h := HL.out; have h2 := HS.out.len; simp at h h2; omega) (HS.out.tab HO.out HBw.out HTb.out)).mono ?_
    rintro e w2 ⟨a2, cap2, rfl, hown2, hgr2⟩
    have HS2 : Hid _ := HS.out.more hown2 rfl hgr2
    clear HS hown2 hgr2 hb
    have HS : Hid _ := HS2
    clear HS2
    have HI : Hid ((Lib.itoa (-x)).length ≤ 21) := Lib.itoa_length_le _ (by omega) (by omega)
    go_wp2_with (first
      | (at_builtin; refine wp_lit rfl _ _ rfl HS.out _ [77] rfl _ rfl rfl _ rfl (by simp) (by have h := HL.out; have h2 := HI.out; simp at h ⊢; omega) ?_; clear HS; intro b m cap W HS0; have HS : Hid _ := HS0; clear HS0))
    go_ret
    exact HS.out.out HBw.out (by simp [sgn, expT, c10])
  | true =>
    go_enter Tryd.func26, Tryd.ntmps26
    go_wp2_with (first
      | (at_builtin; refine wp_lit rfl _ _ rfl HS.out _ [45] rfl _ rfl rfl _ rfl (by simp) (by simp; omega) ?_; clear HS; intro b m cap W HS0
         have hbx1 : W.cell? ⟨w.heap.size, 1, none⟩ = some (.string s) := by rw [HS0.box HO.out 1]; rfl
         have hbx2 : W.cell? ⟨w.heap.size, 2, none⟩ = some (.int .i64 x) := by rw [HS0.box HO.out 2]; rfl
         have HS : Hid _ := HS0; clear HS0))
    go_quiet (fail)
    have HS1 := HS.out.drewN nq
    clear HS hbx1 hbx2
    have HS : Hid _ := HS1
    clear HS1
    go_wp2_with (first
      | (at_builtin; refine wp_lit rfl _ _ rfl HS.out _ [d0] rfl _ rfl rfl _ rfl (by simp) (by have h := HL.out; simp at h ⊢; omega) ?_; clear HS; intro b m cap W HS0; have HS : Hid _ := HS0; clear HS0)
      | (at_builtin; refine wp_lit rfl _ _ rfl HS.out _ [101, 45] rfl _ rfl rfl _ rfl (by simp) (by have h := HL.out; simp at h ⊢; omega) ?_; clear HS; intro b m cap W HS0; have HS : Hid _ := HS0; clear HS0))
    have hb := HS.out.gr.g.size
    simp at hb
    refine (ai_any B _ _ (-x) (by omega) (by omega) _ _ _ HS.out.own (by have := HBw.out; omega) (by have h := HL.out; have h2 := HS.out.len; simp at h h2; omega) (HS.out.tab HO.out HBw.out HTb.out)).mono ?_
    rintro e w2 ⟨a2, cap2, rfl, hown2, hgr2⟩
    have HS2 : Hid _ := HS.out.more hown2 rfl hgr2
    clear HS hown2 hgr2 hb
    have HS : Hid _ := HS2
    clear HS2
    have HI : Hid ((Lib.itoa (-x)).length ≤ 21) := Lib.itoa_length_le _ (by omega) (by omega)
    go_wp2_with (first
      | (at_builtin; refine wp_lit rfl _ _ rfl HS.out _ [77] rfl _ rfl rfl _ rfl (by simp) (by have h := HL.out; have h2 := HI.out; simp at h ⊢; omega) ?_; clear HS; intro b m cap W HS0; have HS : Hid _ := HS0; clear HS0))
    go_ret
    exact HS.out.out HBw.out (by simp [sgn, expT, c10])

set_option maxRecDepth 100000 in
set_option maxHeartbeats 4000000 in
theorem ad_expr_45_l (B n cap : Nat) (neg : Bool) (s : ByteArray) (D : List UInt8) (x : Int) (a : Option Addr) (pre : List Value) (w : World) (hs : s.data.toList = D) (hown : w.ownsRow B 5 1 (.slice a n cap) n pre) (hBw : B ≤ w.heap.size) (hlim : n + 4000000 ≤ 140737488355328) (hD1 : D.length ≤ 1048576) (h0 : -9223372036854775808 < x) (h1 : x ≤ 9223372036854775807) (hx : x < -4 ∨ 5 < x) (htab : Lib.TabBelow Tryd.prog B w powName .u64 Lib.pow10Tab) (d0 : UInt8) (R : List UInt8) (hDR : D = d0 :: R) (hR : R ≠ []) (hxs : x < 0) (c10 : ¬ (-x) < 10) :
    Calls Tryd.prog 26 #[.slice a n cap, .agg #[.bool neg, .string s, .int .i64 x]] w fun e w' => Wrote B w a pre n (sgn neg ++ ((d0 :: 46 :: R) ++ 101 :: 45 :: expT (-x)) ++ [77]) e w' := by
  have HSD : Hid (s.data.toList = D) := hs
  have hsz := str_size hs
  have HO : Hid (w.ownsRow B 5 1 (.slice a n cap) n pre) := hown
  have HS : Hid (AS B (w.alloc (.cells #[.bool neg, .string s, .int .i64 x] 28)) a pre n [] (w.alloc (.cells #[.bool neg, .string s, .int .i64 x] 28)) a n cap) := ⟨by simpa [Lib.byteCells] using hown.alloc _, rfl, Gr.refl _ _, by simp; omega⟩
  have HBw : Hid (B ≤ w.heap.size) := hBw
  have hse : s.toList.isEmpty = false := by rw [ByteArray.toList_eq, hs, hDR]; rfl
  have hg0 := str_at hs (k := 0) (c := d0) (by rw [hDR]; rfl)
  have HRg : Hid (-9223372036854775808 < x ∧ x ≤ 9223372036854775807 ∧ (x < -4 ∨ 5 < x)) := ⟨h0, h1, hx⟩
  have HTb : Hid (Lib.TabBelow Tryd.prog B w powName .u64 Lib.pow10Tab) := htab
  have HL : Hid (R.length ≤ 1048576) := by rw [hDR] at hD1; simp at hD1; show _ ≤ _; omega
  have c1 : x < -4 := by omega
  obtain ⟨r, hr⟩ : ∃ r, R.length = r := ⟨_, rfl⟩
  have hr1 : 1 ≤ r := by rw [← hr]; exact List.length_pos_iff.2 hR
  have hsz1 : s.size = r + 1 := by rw [hsz, hDR, ← hr]; rfl
  obtain ⟨t1, ht1⟩ : ∃ t1, s.extract 1 (r + 1) = t1 := ⟨_, rfl⟩
  have H1 : Hid (t1.data.toList = R) := by show _ = _; rw [← ht1, ext_data, hs, hDR]; simp [← hr]
  have HRL : Hid (R.length = r) := hr
  have hri : (1 : Int) < (r : Int) + 1 := by omega
  have hri2 : (1 : Int) ≤ (r : Int) + 1 := by omega
  clear hs hown hBw htab hx hDR hsz hD1 hR hr
  cases neg with
  | false =>
    go_enter Tryd.func26, Tryd.ntmps26
    go_wp2_with fail
    go_quiet (fail)
    have HS1 := HS.out.drewN nq
    clear HS
    have HS : Hid _ := HS1
    clear HS1
    go_wp2_with (first
      | (at_builtin; refine wp_lit rfl _ _ rfl HS.out _ [d0] rfl _ rfl rfl _ rfl (by simp) (by have h := HL.out; simp at h ⊢; omega) ?_; clear HS; intro b m cap W HS0; have HS : Hid _ := HS0; clear HS0))
    have HSd : Hid _ := HS.out.drew
    clear HS
    go_region_law (first
      | (refine step_lit rfl _ _ rfl HSd.out _ [46] rfl 1 rfl (by simp [Act.eval]) W.heap.size (by simp [Act.eval]) rfl (by have h := HL.out; simp at h ⊢; omega) ?_; clear HSd; intro b m cap W HS0; have HS : Hid _ := HS0; clear HS0)
      | (refine step_str rfl _ _ rfl HS.out t1 R H1.out (by simp [Act.eval]) (by simp [Act.eval]) (by have h := HL.out; simp at h ⊢; omega) ?_; clear HS; intro b m cap W HS0; have HS : Hid _ := HS0; clear HS0))
    go_wp2_with (first
      | (at_builtin; refine wp_lit rfl _ _ rfl HS.out _ [101, 45] rfl _ rfl rfl _ rfl (by simp) (by have h := HL.out; simp at h ⊢; omega) ?_; clear HS; intro b m cap W HS0; have HS : Hid _ := HS0; clear HS0))
    have hb := HS.out.gr.g.size
    simp at hb
    refine (ai_any B _ _ (-x) (by omega) (by omega) _ _ _ HS.out.own (by have := HBw.out; omega) (by have h := HL.out; have h2 := HS.out.len; simp at h h2; omega) (HS.out.tab HO.out HBw.out HTb.out)).mono ?_
    rintro e w2 ⟨a2, cap2, rfl, hown2, hgr2⟩
    have HS2 : Hid _ := HS.out.more hown2 rfl hgr2
    clear HS hown2 hgr2 hb
    have HS : Hid _ := HS2
    clear HS2
    have HI : Hid ((Lib.itoa (-x)).length ≤ 21) := Lib.itoa_length_le _ (by omega) (by omega)
    go_wp2_with (first
      | (at_builtin; refine wp_lit rfl _ _ rfl HS.out _ [77] rfl _ rfl rfl _ rfl (by simp) (by have h := HL.out; have h2 := HI.out; simp at h ⊢; omega) ?_; clear HS; intro b m cap W HS0; have HS : Hid _ := HS0; clear HS0))
    go_ret
    exact HS.out.out HBw.out (by simp [sgn, expT, c10])
  | true =>
    go_enter Tryd.func26, Tryd.ntmps26
    go_wp2_with (first
      | (at_builtin; refine wp_lit rfl _ _ rfl HS.out _ [45] rfl _ rfl rfl _ rfl (by simp) (by simp; omega) ?_; clear HS; intro b m cap W HS0
         have hbx1 : W.cell? ⟨w.heap.size, 1, none⟩ = some (.string s) := by rw [HS0.box HO.out 1]; rfl
         have hbx2 : W.cell? ⟨w.heap.size, 2, none⟩ = some (.int .i64 x) := by rw [HS0.box HO.out 2]; rfl
         have HS : Hid _ := HS0; clear HS0))
    go_quiet (fail)
    have HS1 := HS.out.drewN nq
    clear HS hbx1 hbx2
    have HS : Hid _ := HS1
    clear HS1
    go_wp2_with (first
      | (at_builtin; refine wp_lit rfl _ _ rfl HS.out _ [d0] rfl _ rfl rfl _ rfl (by simp) (by have h := HL.out; simp at h ⊢; omega) ?_; clear HS; intro b m cap W HS0; have HS : Hid _ := HS0; clear HS0))
    have HSd : Hid _ := HS.out.drew
    clear HS
    go_region_law (first
      | (refine step_lit rfl _ _ rfl HSd.out _ [46] rfl 1 rfl (by simp [Act.eval]) W.heap.size (by simp [Act.eval]) rfl (by have h := HL.out; simp at h ⊢; omega) ?_; clear HSd; intro b m cap W HS0; have HS : Hid _ := HS0; clear HS0)
      | (refine step_str rfl _ _ rfl HS.out t1 R H1.out (by simp [Act.eval]) (by simp [Act.eval]) (by have h := HL.out; simp at h ⊢; omega) ?_; clear HS; intro b m cap W HS0; have HS : Hid _ := HS0; clear HS0))
    go_wp2_with (first
      | (at_builtin; refine wp_lit rfl _ _ rfl HS.out _ [101, 45] rfl _ rfl rfl _ rfl (by simp) (by have h := HL.out; simp at h ⊢; omega) ?_; clear HS; intro b m cap W HS0; have HS : Hid _ := HS0; clear HS0))
    have hb := HS.out.gr.g.size
    simp at hb
    refine (ai_any B _ _ (-x) (by omega) (by omega) _ _ _ HS.out.own (by have := HBw.out; omega) (by have h := HL.out; have h2 := HS.out.len; simp at h h2; omega) (HS.out.tab HO.out HBw.out HTb.out)).mono ?_
    rintro e w2 ⟨a2, cap2, rfl, hown2, hgr2⟩
    have HS2 : Hid _ := HS.out.more hown2 rfl hgr2
    clear HS hown2 hgr2 hb
    have HS : Hid _ := HS2
    clear HS2
    have HI : Hid ((Lib.itoa (-x)).length ≤ 21) := Lib.itoa_length_le _ (by omega) (by omega)
    go_wp2_with (first
      | (at_builtin; refine wp_lit rfl _ _ rfl HS.out _ [77] rfl _ rfl rfl _ rfl (by simp) (by have h := HL.out; have h2 := HI.out; simp at h ⊢; omega) ?_; clear HS; intro b m cap W HS0; have HS : Hid _ := HS0; clear HS0))
    go_ret
    exact HS.out.out HBw.out (by simp [sgn, expT, c10])

end Go.Proofs.Qxb6001227aDoor
