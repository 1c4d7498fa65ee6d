/-
  THE PLAIN LAW OF FnAppendDecimalDecodesBack: each valid decimal's text, and that the decoder reads it back.
-/
import Derived.Test.Qxb6001227aDoorDecInt
import Derived.Test.Qxb6001227aDoorDecExp
import Derived.Test.Qxb6001227aDoorAppExp
import Derived.Test.Qxb6001227aDoorCanonPlain
namespace Go.Proofs.Qxb6001227aDoor
open Go.RowKit

/-- The decoder reads the body Bd, behind its sign and ahead of its M, as the decimal. -/
def ReadsBack (neg : Bool) (D : List UInt8) (x : Int) (Bd : List UInt8) : Prop :=
  ∀ g o m o1 n cap w, Start w neg g o m o1 n → n = Bd.length → m ≤ 4000000 → m + 1 ≤ cap → cap ≤ 9223372036854775807 → Body w g o1 Bd →
    Calls Tryd.prog 16 #[.slice (some ⟨g, o, none⟩) (m + 1) cap] w fun e w' => Decoded neg D x e ∧ Below w.heap.size w w'

/-- appendDecimal writes the body. -/
def Writes (neg : Bool) (s : ByteArray) (x : Int) (Bd : List UInt8) : Prop :=
  ∀ (B n cap : Nat) (a : Option Addr) (pre : List Value) (w : World), w.ownsRow B 5 1 (.slice a n cap) n pre → B ≤ w.heap.size → n + 4000000 ≤ 140737488355328 → Lib.TabBelow Tryd.prog B w powName .u64 Lib.pow10Tab →
    Calls Tryd.prog 26 #[.slice a n cap, .agg #[.bool neg, .string s, .int .i64 x]] w fun e w' => Wrote B w a pre n (sgn neg ++ Bd ++ [77]) e w'

theorem rb_zero : ReadsBack false [] 0 [48] := by
  intro g o m o1 n cap w hS hn _ hc1 hc2 hB
  have h1 := hS.no rfl
  obtain ⟨rfl, rfl⟩ := h1
  subst hn
  have hk := hB 0 48 rfl
  rw [Nat.add_zero] at hk
  exact dec_zero g o1 cap w hk hS.mm hc1 hc2

/-- The digits of an exponent's text. -/
theorem expT_facts {y : Int} (h0 : 0 ≤ y) (h1 : y ≤ 9223372036854775807) : (∀ c ∈ expT y, 48 ≤ c.toNat ∧ c.toNat ≤ 57) ∧ valD (expT y) = y ∧ 2 ≤ (expT y).length ∧ (expT y).length ≤ 19 := by
  have hi : Lib.itoa y = Lib.decDigits y.toNat := by unfold Lib.itoa; rw [if_neg (by omega)]
  have hd : ∀ c ∈ Lib.decDigits y.toNat, 48 ≤ c.toNat ∧ c.toNat ≤ 57 := fun c hc => dg_bounds (List.all_eq_true.1 (dd_all _) c hc)
  have hl : (Lib.decDigits y.toNat).length ≤ 19 := by
    rw [Lib.decDigits_length]
    exact nd_le 18 y.toNat (by have h3 : 10 ^ (18 + 1) = 10000000000000000000 := by decide
                               omega)
  unfold expT
  by_cases h : y < 10
  · rw [if_pos h, hi]
    have hs := dd_small (u := y.toNat) (by omega)
    refine ⟨fun c hc => ?_, ?_, ?_, ?_⟩
    · rcases List.mem_cons.1 hc with rfl | hc
      · decide
      · exact hd c hc
    · have := dd_val y.toNat
      rw [hs] at this ⊢
      simp [valD] at this ⊢
      omega
    · rw [hs]; simp
    · rw [hs]; simp
  · rw [if_neg h, hi]
    refine ⟨hd, by rw [dd_val]; omega, ?_, hl⟩
    rw [dd_big (by omega), List.length_append]
    have := dd_head (y.toNat / 10)
    obtain ⟨c, r, e, _⟩ := this
    rw [e]
    simp

theorem valid_text {neg : Bool} {s : ByteArray} {D : List UInt8} {x : Int} (hs : s.data.toList = D) (hD1 : D.length ≤ 1048576) (hV : Valid neg D x) (h0 : -9223372036854775808 < x) (h1 : x ≤ 9223372036854775807) :
    ∃ Bd, ReadsBack neg D x Bd ∧ Writes neg s x Bd ∧ Bd.length ≤ 2000000 := by
  rcases hV with ⟨rfl, rfl, rfl⟩ | hD
  · exact ⟨[48], rb_zero, fun B n cap a pre w hown hB hl _ => ad_zero B n cap false s [] 0 a pre w hs hown hB hl hD1 rfl rfl, by simp⟩
  · obtain ⟨d0, R, rfl⟩ : ∃ d0 R, D = d0 :: R := by
      cases D with
      | nil => exact absurd rfl hD.ne
      | cons d0 R => exact ⟨d0, R, rfl⟩
    have hd0 := hD.dg d0 List.mem_cons_self
    have hrd : ∀ c ∈ R, 48 ≤ c.toNat ∧ c.toNat ≤ 57 := fun c hc => hD.dg c (List.mem_cons_of_mem _ hc)
    have hR1 : R.length ≤ 1048576 := by simp at hD1; omega
    by_cases hx : x < -4 ∨ 5 < x
    · -- an exponent
      obtain ⟨sg, y, hy0, hy1, hsg, hW⟩ : ∃ (sg : UInt8) (y : Int), 0 ≤ y ∧ y ≤ 9223372036854775807 ∧ ((sg = 43 ∧ x = y) ∨ (sg = 45 ∧ x = -y)) ∧
          (∀ M, (M = [d0] ∧ R = []) ∨ (M = d0 :: 46 :: R ∧ R ≠ []) → Writes neg s x (M ++ 101 :: sg :: expT y)) := by
        by_cases hneg : x < 0
        · refine ⟨45, -x, by omega, by omega, .inr ⟨rfl, by omega⟩, fun M hM B n cap a pre w hown hB hl ht => ?_⟩
          rcases hM with ⟨rfl, hR⟩ | ⟨rfl, hR⟩
          · by_cases c10 : -x < 10
            · exact ad_exp1_45_s B n cap neg s _ x a pre w hs hown hB hl hD1 h0 h1 hx ht d0 R rfl hR hneg c10
            · exact ad_exp1_45_l B n cap neg s _ x a pre w hs hown hB hl hD1 h0 h1 hx ht d0 R rfl hR hneg c10
          · by_cases c10 : -x < 10
            · exact ad_expr_45_s B n cap neg s _ x a pre w hs hown hB hl hD1 h0 h1 hx ht d0 R rfl hR hneg c10
            · exact ad_expr_45_l B n cap neg s _ x a pre w hs hown hB hl hD1 h0 h1 hx ht d0 R rfl hR hneg c10
        · refine ⟨43, x, by omega, by omega, .inl ⟨rfl, rfl⟩, fun M hM B n cap a pre w hown hB hl ht => ?_⟩
          rcases hM with ⟨rfl, hR⟩ | ⟨rfl, hR⟩
          · by_cases c10 : x < 10
            · exact ad_exp1_43_s B n cap neg s _ x a pre w hs hown hB hl hD1 h0 h1 hx ht d0 R rfl hR (by omega) c10
            · exact ad_exp1_43_l B n cap neg s _ x a pre w hs hown hB hl hD1 h0 h1 hx ht d0 R rfl hR (by omega) c10
          · by_cases c10 : x < 10
            · exact ad_expr_43_s B n cap neg s _ x a pre w hs hown hB hl hD1 h0 h1 hx ht d0 R rfl hR (by omega) c10
            · exact ad_expr_43_l B n cap neg s _ x a pre w hs hown hB hl hD1 h0 h1 hx ht d0 R rfl hR (by omega) c10
      obtain ⟨e1, e2, e3, e4⟩ := expT_facts hy0 hy1
      by_cases hR : R = []
      · refine ⟨[d0] ++ 101 :: sg :: expT y, fun g o m o1 n cap w hS hn hm hc1 hc2 hB => ?_, hW _ (.inl ⟨rfl, hR⟩), by simp; omega⟩
        exact dec_exp1 neg g o m o1 n cap _ [d0] (sg :: expT y) R (expT y) d0 sg x y w hS hn hm hc1 hc2 hB (fun c hc => by simp at hc; subst hc; omega) hd0 hrd e1 rfl rfl e2 hy0 hy1 e3 e4 hsg rfl hR
      · refine ⟨(d0 :: 46 :: R) ++ 101 :: sg :: expT y, fun g o m o1 n cap w hS hn hm hc1 hc2 hB => ?_, hW _ (.inr ⟨rfl, hR⟩), by simp; omega⟩
        refine dec_expr neg g o m o1 n cap _ (d0 :: 46 :: R) (sg :: expT y) R (expT y) d0 sg x y w hS hn hm hc1 hc2 hB (fun c hc => ?_) hd0 hrd e1 rfl rfl e2 hy0 hy1 e3 e4 hsg rfl hR
        rcases List.mem_cons.1 hc with rfl | hc
        · omega
        · rcases List.mem_cons.1 hc with rfl | hc
          · decide
          · have := hrd c hc; omega
    · by_cases hneg : x < 0
      · -- 0.00ddd
        obtain ⟨z, hz⟩ : ∃ z : Nat, x = -((z : Int) + 1) := ⟨(-x - 1).toNat, by omega⟩
        refine ⟨[48] ++ 46 :: (List.replicate z 48 ++ (d0 :: R)), fun g o m o1 n cap w hS hn hm hc1 hc2 hB => ?_, fun B n cap a pre w hown hB hl _ => ad_neg B n cap neg s _ z x a pre w hs hown hB hl hD1 hD hneg (by omega) hz, by simp; omega⟩
        rw [hz]
        have hf : ∀ c ∈ List.replicate z (48 : UInt8) ++ (d0 :: R), 48 ≤ c.toNat ∧ c.toNat ≤ 57 := by
          intro c hc
          rcases List.mem_append.1 hc with h | h
          · rw [List.eq_of_mem_replicate h]; decide
          · exact hD.dg c h
        refine dec_neg neg g o m o1 n cap _ [48] (List.replicate z 48 ++ (d0 :: R)) (d0 :: R) z w hS hn hm hc1 hc2 hB (fun c hc => ?_) (fun c hc => by simp at hc; subst hc; decide) hf rfl (by simp) (by simp) rfl hD rfl
        rcases List.mem_append.1 hc with h | h
        · simp at h; subst h; decide
        · rcases List.mem_cons.1 h with rfl | h
          · decide
          · have := hf c h; omega
      · obtain ⟨k, hk⟩ : ∃ k : Nat, x = (k : Int) := ⟨x.toNat, by omega⟩
        by_cases hkd : k + 1 < (d0 :: R).length
        · -- dd.ddd
          refine ⟨(d0 :: R).take (k + 1) ++ 46 :: (d0 :: R).drop (k + 1), fun g o m o1 n cap w hS hn hm hc1 hc2 hB => ?_, fun B n cap a pre w hown hB hl _ => ad_dot B n cap neg s _ k x a pre w hs hown hB hl hD1 hD hk (by omega) hkd, by simp; omega⟩
          have h1' : ∀ c ∈ (d0 :: R).take (k + 1), 48 ≤ c.toNat ∧ c.toNat ≤ 57 := fun c hc => hD.dg c (List.mem_of_mem_take hc)
          have h2' : ∀ c ∈ (d0 :: R).drop (k + 1), 48 ≤ c.toNat ∧ c.toNat ≤ 57 := fun c hc => hD.dg c (List.mem_of_mem_drop hc)
          have hdec := dec_dot neg g o m o1 n cap _ ((d0 :: R).take (k + 1)) ((d0 :: R).drop (k + 1)) w hS hn hm hc1 hc2 hB (fun c hc => ?_) h1' h2' rfl (by simp) (fun e => by have := congrArg List.length e; simp at this hkd; omega) (fun c hc => hD.hd c (by simpa using hc))
          · rw [List.take_append_drop] at hdec
            refine hdec.mono fun e w' h => ⟨?_, h.2⟩
            have h3 := h.1
            rw [List.length_take, Nat.min_eq_left (by omega)] at h3
            rw [hk]
            have h4 : (((k + 1 : Nat) : Int) - 1) = (k : Int) := by omega
            rwa [h4] at h3
          · rcases List.mem_append.1 hc with h | h
            · have := h1' c h; omega
            · rcases List.mem_cons.1 h with rfl | h
              · decide
              · have := h2' c h; omega
        · -- digits and zeros
          obtain ⟨z, hz⟩ : ∃ z : Nat, k + 1 = (d0 :: R).length + z := ⟨k + 1 - (d0 :: R).length, by omega⟩
          refine ⟨(d0 :: R) ++ List.replicate z 48, fun g o m o1 n cap w hS hn hm hc1 hc2 hB => ?_, fun B n cap a pre w hown hB hl _ => ad_int B n cap neg s _ z x a pre w hs hown hB hl hD1 hD (by omega) (by omega) (by omega), by simp at hz ⊢; omega⟩
          have hf : ∀ c ∈ (d0 :: R) ++ List.replicate z (48 : UInt8), 48 ≤ c.toNat ∧ c.toNat ≤ 57 := by
            intro c hc
            rcases List.mem_append.1 hc with h | h
            · exact hD.dg c h
            · rw [List.eq_of_mem_replicate h]; decide
          have hdec := dec_int neg g o m o1 n cap _ (d0 :: R) w hS hn hm hc1 hc2 hB hf (fun c hc => hf c (List.mem_of_getElem? hc)) (by simp) (fun c hc => hD.hd c (by simpa using hc)) hD (by simp) (by simp)
          refine hdec.mono fun e w' h => ⟨?_, h.2⟩
          have h3 := h.1
          have h4 : ((n : Int) - 1) = x := by rw [hn, List.length_append, List.length_replicate]; omega
          rwa [h4] at h3

end Go.Proofs.Qxb6001227aDoor
