/-
  appendDecimal (26), case by case.
-/
import Derived.Test.Qxb6001227aDoorAppLaws
import Derived.Test.Qxb6001227aDoorItoa
namespace Go.Proofs.Qxb6001227aDoor
open Go.RowKit

theorem AS.box {B : Nat} {w : World} {a : Option Addr} {pre : List Value} {n cap0 : Nat} {T : List UInt8} {W : World} {b : Option Addr} {m cap : Nat} {cs : Array Value} (h : AS B (w.alloc (.cells cs 28)) a pre n T W b m cap) (hown : w.ownsRow B 5 1 (.slice a n cap0) n pre) (k : Nat) : W.cell? ⟨w.heap.size, k, none⟩ = cs[k]? := by
  rw [World.cell?_of_block (h.gr.g.block w.heap.size (by simp) (fun e => by have := (hown.lt w.heap.size (by rw [ownBlock_slice]; exact e.symm)).2; omega))]
  exact cell_of_row (w.alloc (.cells cs 28)) w.heap.size k cs 28 (0, 0) (heap_alloc_new w _)

/-- The sign's text. -/
def sgn (neg : Bool) : List UInt8 := if neg then [45] else []

/-- What appendDecimal leaves. -/
def Wrote (B : Nat) (w : World) (a : Option Addr) (pre : List Value) (n : Nat) (T : List UInt8) (e : Ending) (w' : World) : Prop := ∃ a' m cap', e = .returned (.slice a' m cap') ∧ AS B w a pre n T w' a' m cap'

theorem AS.out {B : Nat} {w : World} {a : Option Addr} {pre : List Value} {n : Nat} {T U : List UInt8} {W : World} {b : Option Addr} {m cap : Nat} {o : Obj} (h : AS B (w.alloc o) a pre n T W b m cap) (hB : B ≤ w.heap.size) (hT : T = U) : Wrote B w a pre n U (.returned (.slice b m cap)) W := by
  subst hT
  exact ⟨b, m, cap, rfl, h.own, h.len, (Gr.alloc w a o).trans h.gr, hB⟩

theorem ext_data (s : ByteArray) (i j : Nat) : (s.extract i j).data.toList = (s.data.toList.drop i).take (j - i) := by
  rw [ByteArray.data_extract, Array.toList_extract]

set_option maxRecDepth 100000 in
set_option maxHeartbeats 4000000 in
theorem ad_zero (B n cap : Nat) (neg : Bool) (s : ByteArray) (D : List UInt8) (x : Int) (a : Option Addr) (pre : List Value) (w : World) (hs : s.data.toList = D) (hown : w.ownsRow B 5 1 (.slice a n cap) n pre) (hBw : B ≤ w.heap.size) (hlim : n + 4000000 ≤ 140737488355328) (_hD1 : D.length ≤ 1048576) (hD : D = []) (hneg : neg = false) :
    Calls Tryd.prog 26 #[.slice a n cap, .agg #[.bool neg, .string s, .int .i64 x]] w fun e w' => Wrote B w a pre n ([48, 77]) e w' := by
  have HSD : Hid (s.data.toList = D) := hs
  have hsz := str_size hs
  have HO : Hid (w.ownsRow B 5 1 (.slice a n cap) n pre) := hown
  have HS : Hid (AS B (w.alloc (.cells #[.bool neg, .string s, .int .i64 x] 28)) a pre n [] (w.alloc (.cells #[.bool neg, .string s, .int .i64 x] 28)) a n cap) := ⟨by simpa [Lib.byteCells] using hown.alloc _, rfl, Gr.refl _ _, by simp; omega⟩
  have HBw : Hid (B ≤ w.heap.size) := hBw
  have hse : s.toList.isEmpty = true := by rw [ByteArray.toList_eq, hs, hD]; rfl
  subst hneg
  clear hD hs hown hBw hsz
  go_enter Tryd.func26, Tryd.ntmps26
  go_wp2_with fail
  go_quiet (fail)
  have HS1 := HS.out.drewN nq
  clear HS
  have HS : Hid _ := HS1
  clear HS1
  go_wp2_with (first
    | (at_builtin; refine wp_lit rfl _ _ rfl HS.out _ [48] rfl _ rfl rfl _ rfl (by simp) (by simp; omega) ?_; clear HS; intro b m cap W HS0; have HS : Hid _ := HS0; clear HS0)
    | (at_builtin; refine wp_lit rfl _ _ rfl HS.out _ [77] rfl _ rfl rfl _ rfl (by simp) (by simp; omega) ?_; clear HS; intro b m cap W HS0; have HS : Hid _ := HS0; clear HS0))
  go_ret
  exact HS.out.out HBw.out rfl

set_option maxRecDepth 100000 in
set_option maxHeartbeats 4000000 in
theorem ad_int (B n cap : Nat) (neg : Bool) (s : ByteArray) (D : List UInt8) (z : Nat) (x : Int) (a : Option Addr) (pre : List Value) (w : World) (hs : s.data.toList = D) (hown : w.ownsRow B 5 1 (.slice a n cap) n pre) (hBw : B ≤ w.heap.size) (hlim : n + 4000000 ≤ 140737488355328) (hD1 : D.length ≤ 1048576) (hD : Dig D) (hx0 : 0 ≤ x) (hx5 : x ≤ 5) (hz : x + 1 = (D.length : Int) + z) :
    Calls Tryd.prog 26 #[.slice a n cap, .agg #[.bool neg, .string s, .int .i64 x]] w fun e w' => Wrote B w a pre n (sgn neg ++ (D ++ List.replicate z 48) ++ [77]) e w' := by
  have HSD : Hid (s.data.toList = D) := hs
  have hsz := str_size hs
  have HO : Hid (w.ownsRow B 5 1 (.slice a n cap) n pre) := hown
  have HS : Hid (AS B (w.alloc (.cells #[.bool neg, .string s, .int .i64 x] 28)) a pre n [] (w.alloc (.cells #[.bool neg, .string s, .int .i64 x] 28)) a n cap) := ⟨by simpa [Lib.byteCells] using hown.alloc _, rfl, Gr.refl _ _, by simp; omega⟩
  have HBw : Hid (B ≤ w.heap.size) := hBw
  have hD2 : 1 ≤ D.length := List.length_pos_iff.2 hD.ne
  have hse : s.toList.isEmpty = false := by rw [ByteArray.toList_eq, hs]; cases D with | nil => exact absurd rfl hD.ne | cons _ _ => rfl
  obtain ⟨d, hd⟩ : ∃ d, D.length = d := ⟨_, rfl⟩
  rw [hd] at hsz hD1 hD2 hz
  have HD : Hid (D.length = d) := hd
  clear hs hown hBw hd
  have hz1 : x + 1 - (d : Int) = (z : Int) := by omega
  have hz6 : z ≤ 6 := by omega
  have c1 : ¬ x < -4 := by omega
  have c2 : ¬ 5 < x := by omega
  have c3 : ¬ x < 0 := by omega
  have c4 : ¬ x < (d : Int) - 1 := by omega
  have HDg : Hid (Dig D) := hD
  clear hz hD
  cases neg with
  | false =>
    go_enter Tryd.func26, Tryd.ntmps26
    go_wp2_with fail
    go_quiet (fail)
    have HS1 := HS.out.drewN nq
    clear HS
    have HS : Hid _ := HS1
    clear HS1
    go_wp2_with (first
      | (at_builtin; refine wp_str rfl _ _ rfl HS.out s D HSD.out rfl rfl (by simp [HD.out]; omega) ?_; clear HS; intro b m cap W HS0; have HS : Hid _ := HS0; clear HS0))
    go_loopw [0, 25] (fun v i wr => ∃ t : Nat, t ≤ z ∧ i = .int .i64 t ∧ ∃ b m cap, v = .slice b m cap ∧ Hid (AS B (w.alloc (.cells #[.bool false, .string s, .int .i64 x] 28)) a pre n ([] ++ D ++ List.replicate t 48) wr b m cap)) (fun _ i _ => z - (intOf i).toNat)
    case atStart => exact ⟨0, Nat.zero_le _, rfl, _, _, _, rfl, by rw [List.replicate_zero, List.append_nil]; exact HS⟩
    case round =>
      clear HS
      obtain ⟨t, ht, rfl, b2, m2, cap2, rfl, HS⟩ := hrel
      by_cases hlt : t < z
      · have hti : (t : Int) < (z : Int) := by omega
        have HT : Hid (List.length ([] ++ D ++ List.replicate t (48 : UInt8)) ≤ 1048600) := by show _ ≤ _; simp [HD.out]; omega
        go_wp2_with (first
          | (at_builtin; refine wp_lit rfl _ _ rfl HS.out _ [48] rfl _ rfl rfl _ rfl (by simp) (by have := HT.out; show _ + _ + 1 ≤ _; omega) ?_; clear HS; intro b m cap W HS0; have HS : Hid _ := HS0; clear HS0))
        go_roundw
        case rel => exact ⟨t + 1, by omega, by go_num, _, _, _, rfl, by rw [List.replicate_succ', ← List.append_assoc]; exact HS⟩
        case measure => simp [intOf]; omega
      · have htz : z = t := by omega
        subst htz
        clear hlt ht
        have HT : Hid (List.length ([] ++ D ++ List.replicate z (48 : UInt8)) ≤ 1048600) := by show _ ≤ _; simp [HD.out]; omega
        go_wp2_with (first
          | (at_builtin; refine wp_lit rfl _ _ rfl HS.out _ [77] rfl _ rfl rfl _ rfl (by simp) (by have := HT.out; show _ + _ + 1 ≤ _; omega) ?_; clear HS; intro b m cap W HS0; have HS : Hid _ := HS0; clear HS0))
        go_ret
        exact HS.out.out HBw.out (by simp [sgn])
  | true =>
    go_enter Tryd.func26, Tryd.ntmps26
    go_wp2_with (first
      | (at_builtin; refine wp_lit rfl _ _ rfl HS.out _ [45] rfl _ rfl rfl _ rfl (by simp) (by simp; omega) ?_; clear HS; intro b m cap W HS0
         have hbx1 : W.cell? ⟨w.heap.size, 1, none⟩ = some (.string s) := by rw [HS0.box HO.out 1]; rfl
         have hbx2 : W.cell? ⟨w.heap.size, 2, none⟩ = some (.int .i64 x) := by rw [HS0.box HO.out 2]; rfl
         have HS : Hid _ := HS0; clear HS0))
    go_quiet (fail)
    have HS1 := HS.out.drewN nq
    clear HS hbx1 hbx2
    have HS : Hid _ := HS1
    clear HS1
    go_wp2_with (first
      | (at_builtin; refine wp_str rfl _ _ rfl HS.out s D HSD.out rfl rfl (by simp [HD.out]; omega) ?_; clear HS; intro b m cap W HS0; have HS : Hid _ := HS0; clear HS0))
    go_loopw [0, 25] (fun v i wr => ∃ t : Nat, t ≤ z ∧ i = .int .i64 t ∧ ∃ b m cap, v = .slice b m cap ∧ Hid (AS B (w.alloc (.cells #[.bool true, .string s, .int .i64 x] 28)) a pre n ([] ++ [45] ++ D ++ List.replicate t 48) wr b m cap)) (fun _ i _ => z - (intOf i).toNat)
    case atStart => exact ⟨0, Nat.zero_le _, rfl, _, _, _, rfl, by rw [List.replicate_zero, List.append_nil]; exact HS⟩
    case round =>
      clear HS
      obtain ⟨t, ht, rfl, b2, m2, cap2, rfl, HS⟩ := hrel
      by_cases hlt : t < z
      · have hti : (t : Int) < (z : Int) := by omega
        have HT : Hid (List.length ([] ++ [45] ++ D ++ List.replicate t (48 : UInt8)) ≤ 1048600) := by show _ ≤ _; simp [HD.out]; omega
        go_wp2_with (first
          | (at_builtin; refine wp_lit rfl _ _ rfl HS.out _ [48] rfl _ rfl rfl _ rfl (by simp) (by have := HT.out; show _ + _ + 1 ≤ _; omega) ?_; clear HS; intro b m cap W HS0; have HS : Hid _ := HS0; clear HS0))
        go_roundw
        case rel => exact ⟨t + 1, by omega, by go_num, _, _, _, rfl, by rw [List.replicate_succ', ← List.append_assoc]; exact HS⟩
        case measure => simp [intOf]; omega
      · have htz : z = t := by omega
        subst htz
        clear hlt ht
        have HT : Hid (List.length ([] ++ [45] ++ D ++ List.replicate z (48 : UInt8)) ≤ 1048600) := by show _ ≤ _; simp [HD.out]; omega
        go_wp2_with (first
          | (at_builtin; refine wp_lit rfl _ _ rfl HS.out _ [77] rfl _ rfl rfl _ rfl (by simp) (by have := HT.out; show _ + _ + 1 ≤ _; omega) ?_; clear HS; intro b m cap W HS0; have HS : Hid _ := HS0; clear HS0))
        go_ret
        exact HS.out.out HBw.out (by simp [sgn])

set_option maxRecDepth 100000 in
set_option maxHeartbeats 4000000 in
theorem ad_neg (B n cap : Nat) (neg : Bool) (s : ByteArray) (D : List UInt8) (z : Nat) (x : Int) (a : Option Addr) (pre : List Value) (w : World) (hs : s.data.toList = D) (hown : w.ownsRow B 5 1 (.slice a n cap) n pre) (hBw : B ≤ w.heap.size) (hlim : n + 4000000 ≤ 140737488355328) (hD1 : D.length ≤ 1048576) (hD : Dig D) (hx0 : x < 0) (hx4 : -4 ≤ x) (hz : x = -((z : Int) + 1)) :
    Calls Tryd.prog 26 #[.slice a n cap, .agg #[.bool neg, .string s, .int .i64 x]] w fun e w' => Wrote B w a pre n (sgn neg ++ ([48] ++ 46 :: (List.replicate z 48 ++ D)) ++ [77]) e w' := by
  have HSD : Hid (s.data.toList = D) := hs
  have hsz := str_size hs
  have HO : Hid (w.ownsRow B 5 1 (.slice a n cap) n pre) := hown
  have HS : Hid (AS B (w.alloc (.cells #[.bool neg, .string s, .int .i64 x] 28)) a pre n [] (w.alloc (.cells #[.bool neg, .string s, .int .i64 x] 28)) a n cap) := ⟨by simpa [Lib.byteCells] using hown.alloc _, rfl, Gr.refl _ _, by simp; omega⟩
  have HBw : Hid (B ≤ w.heap.size) := hBw
  have hD2 : 1 ≤ D.length := List.length_pos_iff.2 hD.ne
  have hse : s.toList.isEmpty = false := by rw [ByteArray.toList_eq, hs]; cases D with | nil => exact absurd rfl hD.ne | cons _ _ => rfl
  obtain ⟨d, hd⟩ : ∃ d, D.length = d := ⟨_, rfl⟩
  rw [hd] at hsz hD1 hD2 
  have HD : Hid (D.length = d) := hd
  clear hs hown hBw hd
  have hz1 : -x - 1 = (z : Int) := by omega
  have hz6 : z ≤ 6 := by omega
  have c1 : ¬ x < -4 := by omega
  have c2 : ¬ 5 < x := by omega
  clear hz hD
  cases neg with
  | false =>
    go_enter Tryd.func26, Tryd.ntmps26
    go_wp2_with fail
    go_quiet (fail)
    have HS1 := HS.out.drewN nq
    clear HS
    have HS : Hid _ := HS1
    clear HS1
    go_wp2_with (first
      | (at_builtin; refine wp_str rfl _ _ rfl HS.out ⟨#[48, 46]⟩ [48, 46] rfl rfl rfl (by simp; omega) ?_; clear HS; intro b m cap W HS0; have HS : Hid _ := HS0; clear HS0))
    go_loopw [0, 82] (fun v i wr => ∃ t : Nat, t ≤ z ∧ i = .int .i64 t ∧ ∃ b m cap, v = .slice b m cap ∧ Hid (AS B (w.alloc (.cells #[.bool false, .string s, .int .i64 x] 28)) a pre n ([] ++ [48, 46] ++ List.replicate t 48) wr b m cap)) (fun _ i _ => z - (intOf i).toNat)
    case atStart => exact ⟨0, Nat.zero_le _, rfl, _, _, _, rfl, by rw [List.replicate_zero, List.append_nil]; exact HS⟩
    case round =>
      clear HS
      obtain ⟨t, ht, rfl, b2, m2, cap2, rfl, HS⟩ := hrel
      by_cases hlt : t < z
      · have hti : (t : Int) < (z : Int) := by omega
        have HT : Hid (List.length ([] ++ [48, 46] ++ List.replicate t (48 : UInt8)) ≤ 1048600) := by show _ ≤ _; simp; omega
        go_wp2_with (first
          | (at_builtin; refine wp_lit rfl _ _ rfl HS.out _ [48] rfl _ rfl rfl _ rfl (by simp) (by have := HT.out; show _ + _ + 1 ≤ _; omega) ?_; clear HS; intro b m cap W HS0; have HS : Hid _ := HS0; clear HS0))
        go_roundw
        case rel => exact ⟨t + 1, by omega, by go_num, _, _, _, rfl, by rw [List.replicate_succ', ← List.append_assoc]; exact HS⟩
        case measure => simp [intOf]; omega
      · have htz : z = t := by omega
        subst htz
        clear hlt ht
        have HT : Hid (List.length ([] ++ [48, 46] ++ List.replicate z (48 : UInt8)) ≤ 1048600) := by show _ ≤ _; simp; omega
        go_wp2_with (first
          | (at_builtin; refine wp_str rfl _ _ rfl HS.out s D HSD.out rfl rfl (by have := HT.out; rw [HD.out]; omega) ?_; clear HS; intro b m cap W HS0; have HS : Hid _ := HS0; clear HS0)
          | (at_builtin; refine wp_lit rfl _ _ rfl HS.out _ [77] rfl _ rfl rfl _ rfl (by simp) (by simp [HD.out]; omega) ?_; clear HS; intro b m cap W HS0; have HS : Hid _ := HS0; clear HS0))
        go_ret
        exact HS.out.out HBw.out (by simp [sgn])
  | true =>
    go_enter Tryd.func26, Tryd.ntmps26
    go_wp2_with (first
      | (at_builtin; refine wp_lit rfl _ _ rfl HS.out _ [45] rfl _ rfl rfl _ rfl (by simp) (by simp; omega) ?_; clear HS; intro b m cap W HS0
         have hbx1 : W.cell? ⟨w.heap.size, 1, none⟩ = some (.string s) := by rw [HS0.box HO.out 1]; rfl
         have hbx2 : W.cell? ⟨w.heap.size, 2, none⟩ = some (.int .i64 x) := by rw [HS0.box HO.out 2]; rfl
         have HS : Hid _ := HS0; clear HS0))
    go_quiet (fail)
    have HS1 := HS.out.drewN nq
    clear HS hbx1 hbx2
    have HS : Hid _ := HS1
    clear HS1
    go_wp2_with (first
      | (at_builtin; refine wp_str rfl _ _ rfl HS.out ⟨#[48, 46]⟩ [48, 46] rfl rfl rfl (by simp; omega) ?_; clear HS; intro b m cap W HS0; have HS : Hid _ := HS0; clear HS0))
    go_loopw [0, 82] (fun v i wr => ∃ t : Nat, t ≤ z ∧ i = .int .i64 t ∧ ∃ b m cap, v = .slice b m cap ∧ Hid (AS B (w.alloc (.cells #[.bool true, .string s, .int .i64 x] 28)) a pre n ([] ++ [45] ++ [48, 46] ++ List.replicate t 48) wr b m cap)) (fun _ i _ => z - (intOf i).toNat)
    case atStart => exact ⟨0, Nat.zero_le _, rfl, _, _, _, rfl, by rw [List.replicate_zero, List.append_nil]; exact HS⟩
    case round =>
      clear HS
      obtain ⟨t, ht, rfl, b2, m2, cap2, rfl, HS⟩ := hrel
      by_cases hlt : t < z
      · have hti : (t : Int) < (z : Int) := by omega
        have HT : Hid (List.length ([] ++ [45] ++ [48, 46] ++ List.replicate t (48 : UInt8)) ≤ 1048600) := by show _ ≤ _; simp; omega
        go_wp2_with (first
          | (at_builtin; refine wp_lit rfl _ _ rfl HS.out _ [48] rfl _ rfl rfl _ rfl (by simp) (by have := HT.out; show _ + _ + 1 ≤ _; omega) ?_; clear HS; intro b m cap W HS0; have HS : Hid _ := HS0; clear HS0))
        go_roundw
        case rel => exact ⟨t + 1, by omega, by go_num, _, _, _, rfl, by rw [List.replicate_succ', ← List.append_assoc]; exact HS⟩
        case measure => simp [intOf]; omega
      · have htz : z = t := by omega
        subst htz
        clear hlt ht
        have HT : Hid (List.length ([] ++ [45] ++ [48, 46] ++ List.replicate z (48 : UInt8)) ≤ 1048600) := by show _ ≤ _; simp; omega
        go_wp2_with (first
          | (at_builtin; refine wp_str rfl _ _ rfl HS.out s D HSD.out rfl rfl (by have := HT.out; rw [HD.out]; omega) ?_; clear HS; intro b m cap W HS0; have HS : Hid _ := HS0; clear HS0)
          | (at_builtin; refine wp_lit rfl _ _ rfl HS.out _ [77] rfl _ rfl rfl _ rfl (by simp) (by simp [HD.out]; omega) ?_; clear HS; intro b m cap W HS0; have HS : Hid _ := HS0; clear HS0))
        go_ret
        exact HS.out.out HBw.out (by simp [sgn])

set_option maxRecDepth 100000 in
set_option maxHeartbeats 4000000 in
theorem ad_dot (B n cap : Nat) (neg : Bool) (s : ByteArray) (D : List UInt8) (k : Nat) (x : Int) (a : Option Addr) (pre : List Value) (w : World) (hs : s.data.toList = D) (hown : w.ownsRow B 5 1 (.slice a n cap) n pre) (hBw : B ≤ w.heap.size) (hlim : n + 4000000 ≤ 140737488355328) (hD1 : D.length ≤ 1048576) (hD : Dig D) (hx0 : x = (k : Int)) (hx5 : x ≤ 5) (hk : k + 1 < D.length) :
    Calls Tryd.prog 26 #[.slice a n cap, .agg #[.bool neg, .string s, .int .i64 x]] w fun e w' => Wrote B w a pre n (sgn neg ++ (D.take (k + 1) ++ 46 :: D.drop (k + 1)) ++ [77]) e w' := by
  have HSD : Hid (s.data.toList = D) := hs
  have hsz := str_size hs
  have HO : Hid (w.ownsRow B 5 1 (.slice a n cap) n pre) := hown
  have HS : Hid (AS B (w.alloc (.cells #[.bool neg, .string s, .int .i64 x] 28)) a pre n [] (w.alloc (.cells #[.bool neg, .string s, .int .i64 x] 28)) a n cap) := ⟨by simpa [Lib.byteCells] using hown.alloc _, rfl, Gr.refl _ _, by simp; omega⟩
  have HBw : Hid (B ≤ w.heap.size) := hBw
  have hD2 : 1 ≤ D.length := List.length_pos_iff.2 hD.ne
  have hse : s.toList.isEmpty = false := by rw [ByteArray.toList_eq, hs]; cases D with | nil => exact absurd rfl hD.ne | cons _ _ => rfl
  obtain ⟨d, hd⟩ : ∃ d, D.length = d := ⟨_, rfl⟩
  rw [hd] at hsz hD1 hD2 hk
  have HD : Hid (D.length = d) := hd
  clear hs hown hBw hd
  subst hx0
  have c1 : ¬ (k : Int) < -4 := by omega
  have c2 : ¬ 5 < (k : Int) := by omega
  have c3 : ¬ (k : Int) < 0 := by omega
  have c4 : (k : Int) < (d : Int) - 1 := by omega
  have c5 : (k : Int) + 1 ≤ (d : Int) := by omega
  have c6 : (0 : Int) ≤ (k : Int) + 1 := by omega
  have hwr : IntKind.i64.wrap ((k : Int) + 1) = (k : Int) + 1 := by rw [IntKind.wrap_i64]; omega
  obtain ⟨t1, ht1⟩ : ∃ t1, s.extract 0 (k + 1) = t1 := ⟨_, rfl⟩
  obtain ⟨t2, ht2⟩ : ∃ t2, s.extract (k + 1) d = t2 := ⟨_, rfl⟩
  have H1 : Hid (t1.data.toList = D.take (k + 1)) := by show _ = _; rw [← ht1, ext_data, HSD.out, List.drop_zero, Nat.sub_zero]
  have H2 : Hid (t2.data.toList = D.drop (k + 1)) := by show _ = _; rw [← ht2, ext_data, HSD.out, List.take_of_length_le (by simp [HD.out])]
  have HL : Hid ((D.take (k + 1)).length ≤ 1048576 ∧ (D.drop (k + 1)).length ≤ 1048576) := by show _ ∧ _; simp [HD.out]; omega
  clear hD
  cases neg with
  | false =>
    go_enter Tryd.func26, Tryd.ntmps26
    go_wp2_with fail
    go_quiet (fail)
    have HS1 := HS.out.drewN nq
    clear HS
    have HS : Hid _ := HS1
    clear HS1
    go_wp2_with fail
    generalize (w.alloc (.cells #[.bool false, .string s, .int .i64 (k : Int)] 28)).drewN nq = V at HS ⊢
    have HSd : Hid _ := HS.out.drew
    clear HS
    go_region_law (first
      | (refine step_str rfl _ _ rfl HSd.out t1 (D.take (k + 1)) H1.out (by simp [Act.eval, Act.put]) (by simp [Act.eval, Act.put]) (by have h := HL.out; simp at h ⊢; omega) ?_; clear HSd; intro b m cap W HS0; have HS : Hid _ := HS0; clear HS0)
      | (refine step_str2 rfl _ _ rfl HSd.out _ t1 (D.take (k + 1)) H1.out (by simp [Act.eval]) (by simp [Act.eval]) (by have h := HL.out; simp at h ⊢; omega) ?_; clear HSd; intro b m cap W HS0 hlit; have HS : Hid _ := HS0; have HLIT : Hid _ := hlit; clear HS0 hlit)
      | (refine step_lit2 rfl _ _ rfl HS.out _ [46] rfl 1 rfl (by simp [Act.eval]) V.heap.size _ (by simp [Act.eval]) HLIT.out (by simp) (by have h := HL.out; simp at h ⊢; omega) ?_; clear HLIT; clear HS; intro b m cap W HS0; have HS : Hid _ := HS0; clear HS0)
      | (refine step_lit rfl _ _ rfl HS.out _ [46] rfl 1 rfl (by simp [Act.eval]) W.heap.size (by simp [Act.eval]) rfl (by have h := HL.out; simp at h ⊢; omega) ?_; clear HS; intro b m cap W HS0; have HS : Hid _ := HS0; clear HS0)
      | (refine step_str rfl _ _ rfl HS.out t2 (D.drop (k + 1)) H2.out (by simp [Act.eval]) (by simp [Act.eval]) (by have h := HL.out; simp at h ⊢; omega) ?_; clear HS; intro b m cap W HS0; have HS : Hid _ := HS0; clear HS0))
    all_goals
      go_wp2_with (first
        | (at_builtin; refine wp_lit rfl _ _ rfl HS.out _ [77] rfl _ rfl rfl _ rfl (by simp) (by have h := HL.out; simp at h ⊢; omega) ?_; clear HS; intro b m cap W HS0; have HS : Hid _ := HS0; clear HS0))
      go_ret
      exact HS.out.out HBw.out (by simp [sgn])
  | true =>
    go_enter Tryd.func26, Tryd.ntmps26
    go_wp2_with (first
      | (at_builtin; refine wp_lit rfl _ _ rfl HS.out _ [45] rfl _ rfl rfl _ rfl (by simp) (by simp; omega) ?_; clear HS; intro b m cap W HS0
         have hbx1 : W.cell? ⟨w.heap.size, 1, none⟩ = some (.string s) := by rw [HS0.box HO.out 1]; rfl
         have hbx2 : W.cell? ⟨w.heap.size, 2, none⟩ = some (.int .i64 (k : Int)) := by rw [HS0.box HO.out 2]; rfl
         have HS : Hid _ := HS0; clear HS0))
    go_quiet (fail)
    have HS1 := HS.out.drewN nq
    clear HS hbx1 hbx2
    have HS : Hid _ := HS1
    clear HS1
    go_wp2_with fail
    generalize W.drewN nq = V at HS ⊢
    have HSd : Hid _ := HS.out.drew
    clear HS
    go_region_law (first
      | (refine step_str rfl _ _ rfl HSd.out t1 (D.take (k + 1)) H1.out (by simp [Act.eval, Act.put]) (by simp [Act.eval, Act.put]) (by have h := HL.out; simp at h ⊢; omega) ?_; clear HSd; intro b m cap W HS0; have HS : Hid _ := HS0; clear HS0)
      | (refine step_str2 rfl _ _ rfl HSd.out _ t1 (D.take (k + 1)) H1.out (by simp [Act.eval]) (by simp [Act.eval]) (by have h := HL.out; simp at h ⊢; omega) ?_; clear HSd; intro b m cap W HS0 hlit; have HS : Hid _ := HS0; have HLIT : Hid _ := hlit; clear HS0 hlit)
      | (refine step_lit2 rfl _ _ rfl HS.out _ [46] rfl 1 rfl (by simp [Act.eval]) V.heap.size _ (by simp [Act.eval]) HLIT.out (by simp) (by have h := HL.out; simp at h ⊢; omega) ?_; clear HLIT; clear HS; intro b m cap W HS0; have HS : Hid _ := HS0; clear HS0)
      | (refine step_lit rfl _ _ rfl HS.out _ [46] rfl 1 rfl (by simp [Act.eval]) W.heap.size (by simp [Act.eval]) rfl (by have h := HL.out; simp at h ⊢; omega) ?_; clear HS; intro b m cap W HS0; have HS : Hid _ := HS0; clear HS0)
      | (refine step_str rfl _ _ rfl HS.out t2 (D.drop (k + 1)) H2.out (by simp [Act.eval]) (by simp [Act.eval]) (by have h := HL.out; simp at h ⊢; omega) ?_; clear HS; intro b m cap W HS0; have HS : Hid _ := HS0; clear HS0))
    all_goals
      go_wp2_with (first
        | (at_builtin; refine wp_lit rfl _ _ rfl HS.out _ [77] rfl _ rfl rfl _ rfl (by simp) (by have h := HL.out; simp at h ⊢; omega) ?_; clear HS; intro b m cap W HS0; have HS : Hid _ := HS0; clear HS0))
      go_ret
      exact HS.out.out HBw.out (by simp [sgn])

end Go.Proofs.Qxb6001227aDoor
