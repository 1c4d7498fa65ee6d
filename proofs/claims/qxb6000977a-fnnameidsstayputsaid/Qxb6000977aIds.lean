/-
  THE WALK OF FnNameIdsStayPut (6).
-/
import Derived.Test.Qxb6000977aDoors
import Derived.Test.Qxb6000977aBytes
namespace Go.Proofs.Qxb6000977a
open Go.RowKit Go.WideMaps Go.Maps

theorem info33 : (Try.prog.info? 33).map (fun i => (i.zero, i.size, i.bytes)) = some (some (.int .u64 0), 1, 8) := by kernel_rfl

theorem zz_miss (B sb mb : Nat) (a : Option Addr) (cap : Nat) (ns : List ByteArray) (N : Nat) (w : World) (t : ByteArray)
    (h : St B sb mb a cap ns N w) (ht : t.size ≤ maxLen) (hk : ix ns t = none) (hn : ns.length ≤ 1000000) (hN : N ≤ 1000000) :
    Calls Try.prog 16 #[.pointer (some ⟨sb, 0, none⟩), .string t] w fun e w' => e = .returned (.int .u64 (ns.length : Int)) ∧ ∃ a' cap', St B sb mb a' cap' (ns ++ [t]) (N + 1) w' ∧ Fr B sb mb a ns.length w w' a' := by
  refine (zz_any B sb mb a cap ns N w t h ht hn hN).mono ?_
  rw [nmI_none hk, nmL_none hk]
  exact fun e w' h => h

theorem St.drewN {B sb mb : Nat} {a : Option Addr} {cap : Nat} {ns : List ByteArray} {N : Nat} {w : World} (h : St B sb mb a cap ns N w) (n : Nat) : St B sb mb a cap ns N (w.drewN n) :=
  ⟨h.cells, h.row, h.map, h.hsb, h.hmb, h.hB⟩

/-- The state of the first loop, k rounds behind: the store, the ids' row in block g. -/
structure R1 (ss : List ByteArray) (B : Nat) (w : World) (sb mb g k : Nat) (wr : World) (a : Option Addr) (cap : Nat) (ns : List ByteArray) (cur : Array Value) : Prop where
  st : St B sb mb a cap ns k wr
  row : wr.heap[g]? = some (.cells cur 33 (0, 0))
  size : cur.size = ss.length
  hg : B ≤ g
  ids : ∀ (j : Nat) t, j < k → ss[j]? = some t → ∃ p : Nat, ix ns t = some p ∧ cur[j]? = some (.int .u64 (p : Int))
  src : ∀ t p, ix ns t = some p → ∃ j : Nat, ss[j]? = some t
  len : ns.length ≤ k
  below : Below B w wr

theorem R1.ne {ss : List ByteArray} {B : Nat} {w : World} {sb mb g k : Nat} {wr : World} {a : Option Addr} {cap : Nat} {ns : List ByteArray} {cur : Array Value} (h : R1 ss B w sb mb g k wr a cap ns cur) :
    g ≠ sb ∧ g ≠ mb ∧ some g ≠ blk a := by
  refine ⟨?_, ?_, ?_⟩
  · rintro rfl
    have := h.row
    rw [h.st.cells] at this
    cases this
  · rintro rfl
    obtain ⟨D, ⟨es, cl, hb, _⟩, _⟩ := h.st.map
    rw [h.row] at hb
    cases hb
  · intro e
    obtain ⟨cur', hc⟩ := row_blk h.st.row (by rw [ownBlock_slice]; exact e.symm)
    rw [h.row] at hc
    cases hc

theorem R1.step {ss : List ByteArray} {B : Nat} {w : World} {sb mb g k : Nat} {wr : World} {a : Option Addr} {cap : Nat} {ns : List ByteArray} {cur : Array Value} (h : R1 ss B w sb mb g k wr a cap ns cur)
    {t : ByteArray} (ht : ss[k]? = some t) {w' : World} {a' : Option Addr} {cap' : Nat} (hst : St B sb mb a' cap' (nmL ns t) (k + 1) w') (hfr : Fr B sb mb a ns.length wr w' a') :
    R1 ss B w sb mb g (k + 1) (w'.setCell ⟨g, k, none⟩ (.int .u64 (nmI ns t : Int))) a' cap' (nmL ns t) (cur.setIfInBounds k (.int .u64 (nmI ns t : Int))) := by
  obtain ⟨n1, n2, n3⟩ := h.ne
  have hgl : g < wr.heap.size := (Array.getElem?_eq_some_iff.1 h.row).1
  have hrow' : w'.heap[g]? = some (.cells cur 33 (0, 0)) := (hfr.block g hgl n1 n2 n3).trans h.row
  have hkl : k < ss.length := (List.getElem?_eq_some_iff.1 ht).1
  have n4 : some g ≠ blk a' := by
    intro e
    obtain ⟨cur', hc⟩ := row_blk hst.row (by rw [ownBlock_slice]; exact e.symm)
    rw [hrow'] at hc
    cases hc
  refine ⟨hst.grown (grownBy_set _ _ _ _) (fun e => n1 (Option.some.inj e).symm) (fun e => n2 (Option.some.inj e).symm) (.inr (fun e => n4 e.symm)), heap_setCell_same _ _ _ _ _ _ hrow', by simpa using h.size, h.hg, ?_, ?_, ?_, ?_⟩
  · intro j s hj hs
    by_cases e : j = k
    · subst e
      rw [ht] at hs
      cases hs
      exact ⟨nmI ns t, ix_nmL ns t, by rw [Array.getElem?_setIfInBounds_self_of_lt (by have := h.size; omega)]⟩
    · obtain ⟨p, h1, h2⟩ := h.ids j s (by omega) hs
      exact ⟨p, ix_nmL_some t h1, by rw [Array.getElem?_setIfInBounds_ne (by omega)]; exact h2⟩
  · intro s p hs
    rcases ix_nmL_from hs with rfl | hs
    · exact ⟨k, ht⟩
    · exact h.src s p hs
  · have := (nmL_length ns t).2
    have := h.len
    omega
  · exact (h.below.trans (hfr.below h.st)).setCell h.hg _

theorem R1.start {ss : List ByteArray} {w w1 w2 : World} {sb mb : Nat} {xs : List Value} (hst : St w.heap.size sb mb none 0 [] 0 w1) (hb : Below w.heap.size w w1)
    (hrow : w2.ownsRow w1.heap.size 33 1 (.slice (some ⟨w1.heap.size, 0, none⟩) ss.length ss.length) ss.length xs) (hgr : w1.grownBy w2 none) :
    ∃ a cap ns cur, R1 ss w.heap.size w sb mb w1.heap.size 0 w2 a cap ns cur := by
  rcases hrow.2 with ⟨h, _⟩ | ⟨g, c, cur, hv, _, hg, h1, h2, h3, h4⟩
  · cases h
  · injection hv with e1 e2 e3
    injection e1 with e1
    injection e1 with e1
    subst e1 e3
    refine ⟨none, 0, [], cur, hst.grown hgr (by simp) (by simp) (.inl rfl), hg, by omega, hb.size, fun j t hj => by omega, fun t p h => by simp [ix] at h, Nat.le_refl _, ?_⟩
    exact hb.grown hgr (hb.size) (fun k e => by cases e)

theorem R1.idx {ss : List ByteArray} {B : Nat} {w : World} {sb mb g k : Nat} {wr : World} {a : Option Addr} {cap : Nat} {ns : List ByteArray} {cur : Array Value} (h : R1 ss B w sb mb g k wr a cap ns cur)
    {w' : World} {a' : Option Addr} (hfr : Fr B sb mb a ns.length wr w' a') {j : Nat} (hj : j < ss.length) : (∃ u, w'.cell? ⟨g, j, none⟩ = some u) ∧ w'.frozen? ⟨g, j, none⟩ = false := by
  obtain ⟨n1, n2, n3⟩ := h.ne
  have hgl : g < wr.heap.size := (Array.getElem?_eq_some_iff.1 h.row).1
  have hrow' : w'.heap[g]? = some (.cells cur 33 (0, 0)) := (hfr.block g hgl n1 n2 n3).trans h.row
  refine ⟨⟨cur[j]'(by have := h.size; omega), ?_⟩, ?_⟩
  · rw [cell_of_row w' g j cur 33 (0, 0) hrow']
    exact Array.getElem?_eq_getElem _
  · simp [World.frozen?, hrow']

/-- The state of the second loop: every text of the script has its place among the names, and the ids' row holds it. -/
structure R2 (ss : List ByteArray) (B : Nat) (w : World) (sb mb g N : Nat) (wr : World) (a : Option Addr) (cap : Nat) (ns : List ByteArray) (cur : Array Value) : Prop where
  st : St B sb mb a cap ns N wr
  row : wr.heap[g]? = some (.cells cur 33 (0, 0))
  ids : ∀ (j : Nat) t, ss[j]? = some t → ∃ p : Nat, ix ns t = some p ∧ cur[j]? = some (.int .u64 (p : Int))
  below : Below B w wr

theorem R2.drewN {ss : List ByteArray} {B : Nat} {w : World} {sb mb g N : Nat} {wr : World} {a : Option Addr} {cap : Nat} {ns : List ByteArray} {cur : Array Value} (h : R2 ss B w sb mb g N wr a cap ns cur) (n : Nat) :
    R2 ss B w sb mb g N (wr.drewN n) a cap ns cur := ⟨h.st.drewN n, h.row, h.ids, below_drewN h.below n⟩

theorem R1.two {ss : List ByteArray} {B : Nat} {w : World} {sb mb g : Nat} {wr : World} {a : Option Addr} {cap : Nat} {ns : List ByteArray} {cur : Array Value} (h : R1 ss B w sb mb g ss.length wr a cap ns cur) :
    R2 ss B w sb mb g (ss.length + 1) wr a cap ns cur :=
  ⟨h.st.mono (by omega), h.row, fun j t ht => h.ids j t (List.getElem?_eq_some_iff.1 ht).1 ht, h.below⟩

theorem R1.two_miss {ss : List ByteArray} {B : Nat} {w : World} {sb mb g : Nat} {wr : World} {a : Option Addr} {cap : Nat} {ns : List ByteArray} {cur : Array Value} (h : R1 ss B w sb mb g ss.length wr a cap ns cur)
    {again : ByteArray} {w' : World} {a' : Option Addr} {cap' : Nat} (hst : St B sb mb a' cap' (ns ++ [again]) (ss.length + 1) w') (hfr : Fr B sb mb a ns.length wr w' a') :
    R2 ss B w sb mb g (ss.length + 1) w' a' cap' (ns ++ [again]) cur := by
  obtain ⟨n1, n2, n3⟩ := h.ne
  have hgl : g < wr.heap.size := (Array.getElem?_eq_some_iff.1 h.row).1
  refine ⟨hst, (hfr.block g hgl n1 n2 n3).trans h.row, fun j t ht => ?_, h.below.trans (hfr.below h.st)⟩
  obtain ⟨p, h1, h2⟩ := h.ids j t (List.getElem?_eq_some_iff.1 ht).1 ht
  exact ⟨p, ix_append_of_some _ _ _ _ h1, h2⟩

theorem ix_of_get {ss : List ByteArray} {t : ByteArray} {j : Nat} (h : ss[j]? = some t) : ∃ k, ix ss t = some k := by
  cases e : ix ss t with
  | some k => exact ⟨k, rfl⟩
  | none =>
    exfalso
    have h2 := ix_append_of_none ss [] t e
    clear h2
    induction ss generalizing j with
    | nil => simp at h
    | cons x r ih =>
      by_cases ex : x = t
      · simp [ix, ex] at e
      · simp [ix, ex] at e
        cases j with
        | zero => simp at h; exact ex h
        | succ j => exact ih (by simpa using h) e

theorem R1.hit_in {ss : List ByteArray} {B : Nat} {w : World} {sb mb g k : Nat} {wr : World} {a : Option Addr} {cap : Nat} {ns : List ByteArray} {cur : Array Value} (h : R1 ss B w sb mb g k wr a cap ns cur)
    {t : ByteArray} {p : Nat} (ht : ix ns t = some p) : ∃ j, ix ss t = some j := by
  obtain ⟨j, hj⟩ := h.src t p ht
  exact ix_of_get hj

theorem R1.miss_in {ss : List ByteArray} {B : Nat} {w : World} {sb mb g : Nat} {wr : World} {a : Option Addr} {cap : Nat} {ns : List ByteArray} {cur : Array Value} (h : R1 ss B w sb mb g ss.length wr a cap ns cur)
    {t : ByteArray} (ht : ix ns t = none) : ix ss t = none := by
  cases e : ix ss t with
  | none => rfl
  | some k =>
    have hg := ix_get ss t k e
    obtain ⟨p, h1, _⟩ := h.ids k t (List.getElem?_eq_some_iff.1 hg).1 hg
    rw [ht] at h1
    cases h1

set_option maxHeartbeats 2000000 in
theorem ids_any (a0 : Option Addr) (cap0 : Nat) (ss : List ByteArray) (again : ByteArray) (w : World) (hS : Sl w a0 ss) (hL : ss.length ≤ maxLen) (hz : ∀ s ∈ ss, s.size ≤ maxLen) (hg : again.size ≤ maxLen) :
    Calls Try.prog 6 #[.slice a0 ss.length cap0, .string again] w fun e w' => e = .returned (.bool true) ∧ Below w.heap.size w w' := by
  obtain ⟨i0, hi, hz0, hz1, hz2⟩ := info_parts info33
  have HS : Hid (Sl w a0 ss) := hS
  have HZ : Hid (∀ s ∈ ss, s.size ≤ maxLen) := hz
  have HL : Hid (ss.length ≤ maxLen) := hL
  have HG : Hid (again.size ≤ maxLen) := hg
  clear hS hz hL hg
  by_cases h4 : ss.length ≤ 4096
  · by_cases h5 : again.size ≤ 1048576
    · go_enter Try.func6, Try.ntmps6
      go_wp2_with fail
      refine (zb20_any a0 cap0 ss again _ HS.out HL.out).mono ?_
      rintro e w' ⟨⟨b, rfl⟩, hw⟩; subst w'
      cases b
      · go_wp2_with fail
        go_ret
        exact ⟨rfl, Below.refl _ _⟩
      · go_wp2_with fail
        refine (sb_any a0 cap0 ss _ HS.out HL.out).mono ?_
        rintro e w' ⟨⟨r, rfl⟩, hw⟩; subst w'
        go_wp2_with fail
        · go_ret
          exact ⟨rfl, Below.refl _ _⟩
        · refine (new_any _ _ (Nat.le_refl _)).mono ?_
          rintro e w1 ⟨rfl, hst, hb1⟩
          go_wp2_with (first
            | (at_make; refine wpList_make_full _ rfl _ _ 39 rfl _ 33 i0 (.int .u64 0) 1 Try.underlying39 hi hz0 hz1 _ _ _ _ ss.length rfl rfl rfl rfl (by rw [hz2]; omega) (by unfold maxLen; omega) (Nat.le_refl _) ?_
               intro w2 hrow hgr))
          have HR0 := R1.start hst hb1 hrow hgr
          clear hst hb1 hrow hgr
          generalize w.heap.size + 1 = sb at *
          generalize w1.heap.size = g at *
          go_loopw [7] (fun i wr => ∃ k : Nat, k ≤ ss.length ∧ i = .int .i64 k ∧ ∃ a cap ns cur, R1 ss w.heap.size w sb w.heap.size g k wr a cap ns cur) (fun i _ => ss.length - (intOf i).toNat)
          case atStart => exact ⟨0, Nat.zero_le _, rfl, HR0⟩
          case round =>
            obtain ⟨k, hk, rfl, a, cap, ns, cur, hR⟩ := hrel
            by_cases hlt : k < ss.length
            · obtain ⟨t, hs⟩ := getElem?_of_lt ss k hlt
              obtain ⟨b, off, ha, hc⟩ := HS.out.below hR.below (Nat.le_refl _) k t hs
              have hidx := idx_at ha ss.length cap0 k .i64 hlt
              have HT : Hid (ss[k]? = some t) := hs
              clear ha hs HR0
              have hki : (k : Int) < (ss.length : Int) := by omega
              go_wp2_with fail
              refine (zz_any _ _ _ a cap ns k _ t hR.st (HZ.out t (List.mem_of_getElem? HT.out)) (by have := hR.len; omega) (by omega)).mono ?_
              rintro e w' ⟨rfl, a', cap', hst', hfr⟩
              obtain ⟨⟨u, hu⟩, hf⟩ := hR.idx hfr hlt
              have HR1 := hR.step HT.out hst' hfr
              clear hR hst' hfr
              go_wp2_with fail
              go_roundw
              case rel => exact ⟨k + 1, by omega, by go_num, _, _, _, _, HR1⟩
              case measure => simp [intOf]; omega
            · have hkk : k = ss.length := by omega
              subst hkk
              clear HR0
              go_wp2_with fail
              refine (names_any _ _ _ a cap ns _ _ hR.st).mono ?_
              rintro e w' ⟨rfl, hw⟩; subst w'
              go_wp2_with fail
              have hnl := hR.len
              cases hx : ix ns again with
              | some p =>
                have HX : Hid (ix ns again = some p) := hx
                have hR2 := hR.two
                obtain ⟨j, hj⟩ := hR.hit_in hx
                have hpl : p < ns.length := ix_lt ns again p hx
                clear hx
                refine (zz_hit _ _ _ a cap ns _ _ again p hR.st HG.out HX.out).mono ?_
                rintro e w' ⟨rfl, hw⟩; subst w'
                go_wp2_with fail
                refine (names_any _ _ _ a cap ns _ _ hR.st).mono ?_
                rintro e w' ⟨rfl, hw⟩; subst w'
                go_wp2_with fail
                refine (zz_hit _ _ _ a cap ns _ _ again p hR.st HG.out HX.out).mono ?_
                rintro e w' ⟨rfl, hw⟩; subst w'
                go_wp2_with fail
                refine (names_any _ _ _ a cap ns _ _ hR.st).mono ?_
                rintro e w' ⟨rfl, hw⟩; subst w'
                go_wp2_with fail
                refine (io_any a0 cap0 ss again _ (HS.out.below hR.below (Nat.le_refl _)) HL.out).mono ?_
                rintro e w' ⟨he, hw⟩; subst w'
                rw [ixI_some hj] at he
                subst he
                clear hj
                go_wp2_with fail
                refine (names_any _ _ _ a cap ns _ _ hR.st).mono ?_
                rintro e w' ⟨rfl, hw⟩; subst w'
                obtain ⟨b, off, ha, hc⟩ := hR.st.sl p again (ix_get _ _ _ HX.out)
                have hidx := idx_at ha ns.length cap p .u64 hpl
                have hbb := beq_yes (rfl : again = again)
                clear ha
                go_wp2_with fail
                clear hidx hc hbb hpl
                go_loopw [14] (fun i x => ∃ k : Nat, k ≤ ss.length ∧ i = .int .i64 k ∧ R2 ss w.heap.size w sb w.heap.size g (ss.length + 1) x a cap ns cur) (fun i _ => ss.length - (intOf i).toNat)
                case atStart => exact ⟨0, Nat.zero_le _, rfl, hR2⟩
                case round =>
                  clear hR2
                  obtain ⟨k, hk, rfl, hR2⟩ := hrel
                  by_cases hlt : k < ss.length
                  · obtain ⟨t, hs⟩ := getElem?_of_lt ss k hlt
                    obtain ⟨b, off, ha, hc⟩ := HS.out.below hR2.below (Nat.le_refl _) k t hs
                    have hidx := idx_at ha ss.length cap0 k .i64 hlt
                    obtain ⟨q, hq, hcu⟩ := hR2.ids k t hs
                    have hcell : wr.cell? ⟨g, k, none⟩ = some (.int .u64 (q : Int)) := by rw [cell_of_row _ g k cur 33 (0, 0) hR2.row]; exact hcu
                    have HQ : Hid (ix (ns) t = some q) := hq
                    have hts := HZ.out t (List.mem_of_getElem? hs)
                    have hki : (k : Int) < (ss.length : Int) := by omega
                    clear ha hs hq hcu
                    go_wp2_with fail
                    go_quiet ((go_at_call 16; exact Calls.quiet_of_same (zz_hit _ _ _ _ _ _ _ _ t q (hR2.st.drewN _) hts HQ.out)))
                    go_wp2_with fail
                    go_roundw
                    case rel => exact ⟨k + 1, by omega, by go_num, hR2.drewN _⟩
                    case measure => simp [intOf]; omega
                  · go_wp2_with fail
                    refine (names_any _ _ _ _ _ _ _ _ hR2.st).mono ?_
                    rintro e w' ⟨rfl, hw⟩; subst w'
                    go_wp2_with fail
                    go_ret
                    exact ⟨by simp, hR2.below⟩
              | none =>
                have HX : Hid (ix ns again = none) := hx
                have hj := hR.miss_in hx
                clear hx
                refine (zz_miss _ _ _ a cap ns _ _ again hR.st HG.out HX.out (by omega) (by omega)).mono ?_
                rintro e w1 ⟨rfl, a1, cap1, hst1, hfr1⟩
                have hR2 := hR.two_miss hst1 hfr1
                have HB := hR.below.trans (hfr1.below hR.st)
                have HX1 : Hid (ix (ns ++ [again]) again = some ns.length) := ix_snoc_self HX.out
                clear hst1 hfr1 hR
                go_wp2_with fail
                refine (names_any _ _ _ a1 cap1 (ns ++ [again]) _ _ hR2.st).mono ?_
                rintro e w' ⟨rfl, hw⟩; subst w'
                go_wp2_with fail
                refine (zz_hit _ _ _ a1 cap1 (ns ++ [again]) _ _ again ns.length hR2.st HG.out HX1.out).mono ?_
                rintro e w' ⟨rfl, hw⟩; subst w'
                go_wp2_with fail
                refine (names_any _ _ _ a1 cap1 (ns ++ [again]) _ _ hR2.st).mono ?_
                rintro e w' ⟨rfl, hw⟩; subst w'
                go_wp2_with fail
                refine (io_any a0 cap0 ss again _ (HS.out.below HB (Nat.le_refl _)) HL.out).mono ?_
                rintro e w' ⟨he, hw⟩; subst w'
                rw [ixI_none hj] at he
                subst he
                clear hj
                go_wp2_with fail
                refine (names_any _ _ _ a1 cap1 (ns ++ [again]) _ _ hR2.st).mono ?_
                rintro e w' ⟨rfl, hw⟩; subst w'
                obtain ⟨b, off, ha, hc⟩ := hR2.st.sl ns.length again (ix_get _ _ _ HX1.out)
                have hidx := idx_at ha (ns.length + 1) cap1 ns.length .u64 (by omega)
                have hbb := beq_yes (rfl : again = again)
                clear ha
                go_wp2_with fail
                clear hidx hc hbb
                go_loopw [14] (fun i x => ∃ k : Nat, k ≤ ss.length ∧ i = .int .i64 k ∧ R2 ss w.heap.size w sb w.heap.size g (ss.length + 1) x a1 cap1 (ns ++ [again]) cur) (fun i _ => ss.length - (intOf i).toNat)
                case atStart => exact ⟨0, Nat.zero_le _, rfl, hR2⟩
                case round =>
                  clear hR2
                  obtain ⟨k, hk, rfl, hR2⟩ := hrel
                  by_cases hlt : k < ss.length
                  · obtain ⟨t, hs⟩ := getElem?_of_lt ss k hlt
                    obtain ⟨b, off, ha, hc⟩ := HS.out.below hR2.below (Nat.le_refl _) k t hs
                    have hidx := idx_at ha ss.length cap0 k .i64 hlt
                    obtain ⟨q, hq, hcu⟩ := hR2.ids k t hs
                    have hcell : wr.cell? ⟨g, k, none⟩ = some (.int .u64 (q : Int)) := by rw [cell_of_row _ g k cur 33 (0, 0) hR2.row]; exact hcu
                    have HQ : Hid (ix (ns ++ [again]) t = some q) := hq
                    have hts := HZ.out t (List.mem_of_getElem? hs)
                    have hki : (k : Int) < (ss.length : Int) := by omega
                    clear ha hs hq hcu
                    go_wp2_with fail
                    go_quiet ((go_at_call 16; exact Calls.quiet_of_same (zz_hit _ _ _ _ _ _ _ _ t q (hR2.st.drewN _) hts HQ.out)))
                    go_wp2_with fail
                    go_roundw
                    case rel => exact ⟨k + 1, by omega, by go_num, hR2.drewN _⟩
                    case measure => simp [intOf]; omega
                  · go_wp2_with fail
                    refine (names_any _ _ _ _ _ _ _ _ hR2.st).mono ?_
                    rintro e w' ⟨rfl, hw⟩; subst w'
                    go_wp2_with fail
                    go_ret
                    exact ⟨by simp, hR2.below⟩
    · go_enter Try.func6, Try.ntmps6
      go_wp2_with fail
      refine (zb20_any a0 cap0 ss again _ HS.out HL.out).mono ?_
      rintro e w' ⟨⟨b, rfl⟩, hw⟩; subst w'
      cases b
      all_goals
        go_wp2_with fail
        go_ret
        exact ⟨rfl, Below.refl _ _⟩
  · go_enter Try.func6, Try.ntmps6
    go_wp2_with fail
    refine (zb20_any a0 cap0 ss again _ HS.out HL.out).mono ?_
    rintro e w' ⟨⟨b, rfl⟩, hw⟩; subst w'
    cases b
    all_goals
      go_wp2_with fail
      go_ret
      exact ⟨rfl, Below.refl _ _⟩

end Go.Proofs.Qxb6000977a
