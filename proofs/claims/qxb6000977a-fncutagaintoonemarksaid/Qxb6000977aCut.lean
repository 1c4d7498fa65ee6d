/-
  THE WALKS OF cut (27), ZZMarkOfNames (22), ZZCut (23).
-/
import Derived.Test.Qxb6000977aDoors
import Derived.Lib.SliceRun
import Derived.Deep.RegionHeld3
import Derived.BigRegion
namespace Go.Proofs.Qxb6000977a
open Go.RowKit Go.WideMaps Go.Maps

theorem clear_none (t : TypeId) (ht : ∃ d, Try.prog.underlying t = some d) (ty : TypeId) (n c : Nat) (W : World) : (Builtin.clear_ #[t] ty #[.slice none n c]).run Try.prog W = .ok (.tuple #[]) W := by
  obtain ⟨d, hd⟩ := ht
  simp [Builtin.clear_, run_underlying hd]
theorem clear_zero (t : TypeId) (ht : ∃ d, Try.prog.underlying t = some d) (ty : TypeId) (X : Option Addr) (c : Nat) (W : World) : (Builtin.clear_ #[t] ty #[.slice X 0 c]).run Try.prog W = .ok (.tuple #[]) W := by
  obtain ⟨d, hd⟩ := ht
  cases X <;> simp [Builtin.clear_, run_underlying hd]

/-- The mark in its box, and the store, as the walk of cut wants them. -/
structure Mk (sb mk : Nat) (a am : Option Addr) (n n0 cap capm mb : Nat) (W : World) : Prop where
  c0 : W.cell? ⟨sb, 0, none⟩ = some (.slice none 0 0)
  c1 : W.cell? ⟨sb, 1, none⟩ = some (.slice none 0 0)
  c2 : W.cell? ⟨sb, 2, none⟩ = some (.slice a n cap)
  c3 : W.cell? ⟨sb, 3, none⟩ = some (.map (some mb))
  f0 : W.frozen? ⟨sb, 0, none⟩ = false
  f1 : W.frozen? ⟨sb, 1, none⟩ = false
  f2 : W.frozen? ⟨sb, 2, none⟩ = false
  m0 : W.cell? ⟨mk, 0, none⟩ = some (.slice none 0 0)
  m1 : W.cell? ⟨mk, 1, none⟩ = some (.slice none 0 0)
  m3 : W.cell? ⟨mk, 3, none⟩ = some (.slice am n0 capm)
  ne : mk ≠ sb

theorem Mk.of {sb mk : Nat} {a am : Option Addr} {n n0 cap capm mb : Nat} {W : World} (h1 : W.heap[sb]? = some (.cells #[.slice none 0 0, .slice none 0 0, .slice a n cap, .map (some mb)] 50 (0, 0)))
    (h2 : W.heap[mk]? = some (.cells #[.slice none 0 0, .slice none 0 0, .slice none 0 0, .slice am n0 capm] 44 (0, 0))) : Mk sb mk a am n n0 cap capm mb W := by
  refine ⟨?_, ?_, ?_, ?_, ?_, ?_, ?_, ?_, ?_, ?_, ?_⟩
  · rw [cell_of_row W sb 0 _ 50 (0, 0) h1]; rfl
  · rw [cell_of_row W sb 1 _ 50 (0, 0) h1]; rfl
  · rw [cell_of_row W sb 2 _ 50 (0, 0) h1]; rfl
  · rw [cell_of_row W sb 3 _ 50 (0, 0) h1]; rfl
  · simp [World.frozen?, h1]
  · simp [World.frozen?, h1]
  · simp [World.frozen?, h1]
  · rw [cell_of_row W mk 0 _ 44 (0, 0) h2]; rfl
  · rw [cell_of_row W mk 1 _ 44 (0, 0) h2]; rfl
  · rw [cell_of_row W mk 3 _ 44 (0, 0) h2]; rfl
  · rintro rfl
    rw [h1] at h2
    cases h2

/-- The store behind a cut: its three fields are the mark's. -/
def cutW (W : World) (sb : Nat) (v : Value) : World := ((W.setCell ⟨sb, 1, none⟩ (.slice none 0 0)).setCell ⟨sb, 0, none⟩ (.slice none 0 0)).setCell ⟨sb, 2, none⟩ v

set_option maxHeartbeats 400000 in
/-- Nothing was named since the mark. -/
theorem cut_same (B sb mb : Nat) (a am : Option Addr) (cap capm : Nat) (ns : List ByteArray) (N : Nat) (w : World) (h : St B sb mb a cap ns N w) :
    Calls Try.prog 27 #[.pointer (some ⟨sb, 0, none⟩), .agg #[.slice none 0 0, .slice none 0 0, .slice none 0 0, .slice am ns.length capm]] w fun e w' => e = .returned (.tuple #[]) ∧
      ∃ q, w' = cutW ((w.alloc (.cells #[.slice none 0 0, .slice none 0 0, .slice none 0 0, .slice am ns.length capm] 44)).drewN q) sb (.slice am ns.length capm) := by
  have hcs := h.cells
  have hlt := h.lt
  have hM : Mk sb w.heap.size a am ns.length ns.length cap capm mb (w.alloc (.cells #[.slice none 0 0, .slice none 0 0, .slice none 0 0, .slice am ns.length capm] 44)) :=
    Mk.of ((RowKit.Below.heap_alloc w _ sb hlt).trans hcs) (Go.heap_alloc_new w _)
  have hcl := clear_none 42 ⟨_, Try.underlying42⟩
  have hcz := clear_zero 28 ⟨_, Try.underlying28⟩
  clear h hcs hlt
  go_enter Try.func27, Try.ntmps27
  go_wp2_with fail
  generalize hWW : w.alloc (.cells #[.slice none 0 0, .slice none 0 0, .slice none 0 0, .slice am ns.length capm] 44) = W at *
  have HW : Hid (w.alloc (.cells #[.slice none 0 0, .slice none 0 0, .slice none 0 0, .slice am ns.length capm] 44) = W) := hWW
  clear hWW
  generalize w.heap.size = mk at *
  obtain ⟨c0, c1, c2, c3, f0, f1, f2, m0, m1, m3, ne⟩ := hM
  by_cases hcc : cap = ns.length
  all_goals
    go_region
    go_wp2_with fail
    go_quiet (fail)
    go_wp2_with fail
    refine wp_loop_rounds 1 ?_
    rw [rounds_succ]
    go_wp2_with fail
    go_region
    go_wp2_with fail
    go_region
    go_wp2_with fail
    go_end0
    refine ⟨rfl, ?_⟩
    rw [HW.out]
    exact ⟨_, rfl⟩

/-! ### what clearing a row's tail leaves -/
theorem setCells_row (b e : Nat) : ∀ (vs : List Value) (o : Nat) (w : World) (cur : Array Value), w.heap[b]? = some (.cells cur e (0, 0)) →
    ∃ cur', (w.setCells b o vs).heap[b]? = some (.cells cur' e (0, 0)) ∧ cur'.size = cur.size ∧ cur'.toList.take o = cur.toList.take o
  | [], o, w, cur, h => ⟨cur, h, rfl, rfl⟩
  | v :: r, o, w, cur, h => by
    have h1 := heap_setCell_same w b o cur e v h
    obtain ⟨cur', h2, h3, h4⟩ := setCells_row b e r (o + 1) (w.setCell ⟨b, o, none⟩ v) _ h1
    refine ⟨cur', h2, by simpa using h3, ?_⟩
    have h5 := congrArg (List.take o) h4
    rw [List.take_take, List.take_take, Nat.min_eq_left (by omega)] at h5
    rw [h5, Array.toList_setIfInBounds]
    apply List.ext_getElem?
    intro i
    rw [List.getElem?_take, List.getElem?_take]
    split
    · rw [List.getElem?_set_ne (by omega)]
    · rfl

theorem setCells_grown (b : Nat) : ∀ (vs : List Value) (o : Nat) (w : World), w.grownBy (w.setCells b o vs) (some b)
  | [], _, w => World.grownBy.refl w _
  | v :: r, o, w => (grownBy_set w b o v).trans (setCells_grown b r (o + 1) _)

theorem setCells_size (b : Nat) : ∀ (vs : List Value) (o : Nat) (w : World), (w.setCells b o vs).heap.size = w.heap.size
  | [], _, _ => rfl
  | v :: r, o, w => (setCells_size b r (o + 1) _).trans (grownBy_size_set w b o v)

/-- The map without the texts of l. -/
def delAll (D : DataW Unit) (l : List ByteArray) : DataW Unit := l.foldl (fun D t => D.del (.string t.data.toList)) D

theorem delAll_snoc (D : DataW Unit) (l : List ByteArray) (t : ByteArray) : delAll D (l ++ [t]) = (delAll D l).del (.string t.data.toList) := by simp [delAll]

theorem delAll_isMap {D : DataW Unit} (h : Maps.IsMap D) : ∀ l, Maps.IsMap (delAll D l)
  | [] => h
  | _ :: r => delAll_isMap (h.del _) r

theorem delAll_has_not : ∀ (l : List ByteArray) (D : DataW Unit) (t : ByteArray), ¬ t ∈ l → Maps.has (delAll D l) (.string t.data.toList) = Maps.has D (.string t.data.toList)
  | [], _, _, _ => rfl
  | x :: r, D, t, h => by
    have ih := delAll_has_not r (D.del (.string x.data.toList)) t (fun hh => h (List.mem_cons_of_mem _ hh))
    have e1 : delAll D (x :: r) = delAll (D.del (.string x.data.toList)) r := rfl
    rw [e1, ih, Maps.has_del_other (key_ne (fun e => h (by rw [e]; exact List.mem_cons_self)))]

theorem delAll_has_false : ∀ (l : List ByteArray) (D : DataW Unit) (t : ByteArray), Maps.has D (.string t.data.toList) = false → Maps.has (delAll D l) (.string t.data.toList) = false
  | [], _, _, h => h
  | x :: r, D, t, h => by
    refine delAll_has_false r (D.del (.string x.data.toList)) t ?_
    by_cases e : t = x
    · subst e; exact Maps.has_del_same
    · rw [Maps.has_del_other (key_ne e)]; exact h

theorem delAll_has_mem : ∀ (l : List ByteArray) (D : DataW Unit) (t : ByteArray), t ∈ l → Maps.has (delAll D l) (.string t.data.toList) = false
  | [], _, _, h => by simp at h
  | x :: r, D, t, h => by
    rcases List.mem_cons.1 h with rfl | h
    · exact delAll_has_false r _ _ Maps.has_del_same
    · exact delAll_has_mem r _ t h

theorem delAll_at : ∀ (l : List ByteArray) (D : DataW Unit) (t : ByteArray) (z : DataW Unit), ¬ t ∈ l → (delAll D l).atKey (.string t.data.toList) z = D.atKey (.string t.data.toList) z
  | [], D, t, z, _ => rfl
  | x :: r, D, t, z, h => by
    have ih := delAll_at r (D.del (.string x.data.toList)) t z (fun hh => h (List.mem_cons_of_mem _ hh))
    have e1 : delAll D (x :: r) = delAll (D.del (.string x.data.toList)) r := rfl
    rw [e1, ih, Maps.atKey_del_other (key_ne (fun e => h (by rw [e]; exact List.mem_cons_self)))]

theorem ix_mem {ns : List ByteArray} {t : ByteArray} {k : Nat} (h : ix ns t = some k) : t ∈ ns := List.mem_of_getElem? (ix_get ns t k h)
theorem ix_none_mem {ns : List ByteArray} {t : ByteArray} (h : ¬ t ∈ ns) : ix ns t = none := by
  cases e : ix ns t with
  | none => rfl
  | some k => exact absurd (ix_mem e) h
theorem mem_ix_none : ∀ {ns : List ByteArray} {t : ByteArray}, ix ns t = none → ¬ t ∈ ns
  | [], t, _ => by simp
  | x :: r, t, h => by
    by_cases e : x = t
    · simp [ix, e] at h
    · simp [ix, e] at h
      have := mem_ix_none h
      simp [this, Ne.symm e]

theorem Agree.cut {D : DataW Unit} {ns0 rest : List ByteArray} (h : Agree D (ns0 ++ rest)) (hnd : (ns0 ++ rest).Nodup) : Agree (delAll D rest) ns0 := by
  refine ⟨delAll_isMap h.isMap _, fun t k ht => ?_, fun t ht => ?_⟩
  · have hni : ¬ t ∈ rest := fun hm => (List.nodup_append.1 hnd).2.2 t (ix_mem ht) t hm rfl
    have h1 := h.hit t k (ix_append_of_some ns0 rest t k ht)
    rw [delAll_has_not _ _ _ hni, delAll_at _ _ _ _ hni]
    exact h1
  · by_cases hm : t ∈ rest
    · exact delAll_has_mem _ _ _ hm
    · exact delAll_has_false _ _ _ (h.miss t (by rw [ix_append_of_none ns0 rest t ht, ix_none_mem hm]; rfl))

/-- The loop of cut, j texts deleted. -/
structure CutR (W : World) (mb N n0 : Nat) (D : DataW Unit) (ns : List ByteArray) (j : Nat) (wr : World) : Prop where
  own : wr.ownsMap Try.prog 9 (plainElem Try.prog 33) mb N (delAll D ((ns.drop n0).take j))
  grown : W.grownBy wr (some mb)

theorem CutR.drewN {W : World} {mb N n0 : Nat} {D : DataW Unit} {ns : List ByteArray} {j : Nat} {wr : World} (h : CutR W mb N n0 D ns j wr) (q : Nat) : CutR W mb N n0 D ns j (wr.drewN q) :=
  ⟨h.own, ⟨h.grown.os, h.grown.tape, h.grown.output, h.grown.size, h.grown.block⟩⟩

theorem Mk.kept {sb mk : Nat} {a am : Option Addr} {n n0 cap capm mb : Nat} {W W' : World} (h : Mk sb mk a am n n0 cap capm mb W) (h1 : W'.heap[sb]? = W.heap[sb]?) (h2 : W'.heap[mk]? = W.heap[mk]?) : Mk sb mk a am n n0 cap capm mb W' :=
  ⟨(World.cell?_of_block h1).trans h.c0, (World.cell?_of_block h1).trans h.c1, (World.cell?_of_block h1).trans h.c2, (World.cell?_of_block h1).trans h.c3,
    (World.frozen?_of_block h1).trans h.f0, (World.frozen?_of_block h1).trans h.f1, (World.frozen?_of_block h1).trans h.f2,
    (World.cell?_of_block h2).trans h.m0, (World.cell?_of_block h2).trans h.m1, (World.cell?_of_block h2).trans h.m3, h.ne⟩

theorem CutR.next {W : World} {mb N n0 : Nat} {D : DataW Unit} {ns : List ByteArray} {j : Nat} {wr w1 : World} (h : CutR W mb N n0 D ns j wr) {t : ByteArray} (ht : ns[n0 + j]? = some t)
    (hown : w1.ownsMap Try.prog 9 (plainElem Try.prog 33) mb N ((delAll D ((ns.drop n0).take j)).del (.string t.data.toList))) (hturn : wr.mapTurned w1 mb) : CutR W mb N n0 D ns (j + 1) w1 := by
  refine ⟨?_, h.grown.trans hturn.grown⟩
  have e : (ns.drop n0).take (j + 1) = (ns.drop n0).take j ++ [t] := by
    rw [List.take_add_one, List.getElem?_drop, ht]; rfl
  rw [e, delAll_snoc]
  exact hown

/-- What lies behind the deletes and the clearing: W2 is W but for the map and the tail of the names' row. -/
structure CutW2 (W : World) (mb g N n0 : Nat) (D : DataW Unit) (ns : List ByteArray) (W2 : World) : Prop where
  os : W2.os = W.os
  tape : W2.tape = W.tape
  output : W2.output = W.output
  size : W.heap.size ≤ W2.heap.size
  block : ∀ k, k < W.heap.size → k ≠ mb → k ≠ g → W2.heap[k]? = W.heap[k]?
  own : W2.ownsMap Try.prog 9 (plainElem Try.prog 33) mb N (delAll D (ns.drop n0))
  row : ∀ cur, W.heap[g]? = some (.cells cur 9 (0, 0)) → ∃ cur', W2.heap[g]? = some (.cells cur' 9 (0, 0)) ∧ cur'.size = cur.size ∧ cur'.toList.take n0 = cur.toList.take n0

theorem CutR.done {W : World} {mb g N n0 : Nat} {D : DataW Unit} {ns : List ByteArray} {wr : World} (h : CutR W mb N n0 D ns (ns.length - n0) wr) (hgm : g ≠ mb) (hgl : g < W.heap.size) (vs : List Value) :
    CutW2 W mb g N n0 D ns (wr.drew.setCells g n0 vs) := by
  have hs := setCells_grown g vs n0 wr.drew
  refine ⟨hs.os.trans h.grown.os, hs.tape.trans h.grown.tape, hs.output.trans h.grown.output, Nat.le_trans h.grown.size hs.size, fun k hk h1 h2 => ?_, ?_, fun cur hc => ?_⟩
  · rw [hs.block k (Nat.lt_of_lt_of_le hk h.grown.size) (by simpa using h2)]
    exact h.grown.block k hk (by simpa using h1)
  · have e : (ns.drop n0).take (ns.length - n0) = ns.drop n0 := List.take_of_length_le (by simp)
    have h0 := h.own
    rw [e] at h0
    have h1 : wr.drew.ownsMap Try.prog 9 (plainElem Try.prog 33) mb N (delAll D (ns.drop n0)) := h0.drew
    exact h1.kept hs (fun e => hgm (Option.some.inj e).symm)
  · have hc' : wr.drew.heap[g]? = some (.cells cur 9 (0, 0)) := (h.grown.block g hgl (by simpa using hgm)).trans hc
    exact setCells_row g 9 vs n0 wr.drew cur hc'

theorem CutW2.drew {W : World} {mb g N n0 : Nat} {D : DataW Unit} {ns : List ByteArray} {W2 : World} (h : CutW2 W mb g N n0 D ns W2) : CutW2 W mb g N n0 D ns W2.drew :=
  ⟨h.os, h.tape, h.output, h.size, h.block, h.own, h.row⟩

theorem zero9 (w : World) : (zeroValue 9).run Try.prog w = .ok (.string ByteArray.empty) w := by kernel_rfl

set_option maxHeartbeats 400000 in
/-- Something was named since the mark. -/
theorem cut_more (B sb mb g : Nat) (am : Option Addr) (cap capm n0 : Nat) (ns : List ByteArray) (N : Nat) (w : World) (h : St B sb mb (some ⟨g, 0, none⟩) cap ns N w) (hn : n0 < ns.length) (hsz : ∀ t ∈ ns, t.size ≤ maxLen) :
    Calls Try.prog 27 #[.pointer (some ⟨sb, 0, none⟩), .agg #[.slice none 0 0, .slice none 0 0, .slice none 0 0, .slice am n0 capm]] w fun e w' => e = .returned (.tuple #[]) ∧
      ∃ D W2, Agree D ns ∧ CutW2 (w.alloc (.cells #[.slice none 0 0, .slice none 0 0, .slice none 0 0, .slice am n0 capm] 44)) mb g N n0 D ns W2 ∧ w' = cutW W2 sb (.slice am n0 capm) := by
  have hcs := h.cells
  have hlt := h.lt
  have hM : Mk sb w.heap.size (some ⟨g, 0, none⟩) am ns.length n0 cap capm mb (w.alloc (.cells #[.slice none 0 0, .slice none 0 0, .slice none 0 0, .slice am n0 capm] 44)) :=
    Mk.of ((RowKit.Below.heap_alloc w _ sb hlt).trans hcs) (Go.heap_alloc_new w _)
  have hcl := clear_none 42 ⟨_, Try.underlying42⟩
  have hcap : ns.length ≤ cap ∧ cap ≤ maxLen ∧ ∃ cur, w.heap[g]? = some (.cells cur 9 (0, 0)) ∧ cur.size = cap := by
    rcases h.row.2 with ⟨e, _⟩ | ⟨g1, c, cur, e, hb, hg, h1, h2, h3, h4⟩
    · cases e
    · injection e with e1 e2 e3
      injection e1 with e1
      injection e1 with e1
      subst e3 e1
      exact ⟨h1, h2, cur, hg, by omega⟩
  obtain ⟨hc1, hc2, cur, hcur, hcsz⟩ := hcap
  unfold maxLen at hc2
  obtain ⟨D, hown, hag⟩ := h.map
  have hgl : g < w.heap.size := (Array.getElem?_eq_some_iff.1 hcur).1
  have hgm : g ≠ mb := fun e => h.not_mb h.row (by rw [ownBlock_slice]; simp [blk, e])
  have hsm : sb ≠ mb := h.sm
  have hgs : g ≠ sb := fun e => h.not_sb (by decide) h.row (by rw [ownBlock_slice]; simp [blk, e])
  have hsl := h.sl
  have hmlt : mb < w.heap.size := h.mlt
  have HA : Hid (Agree D ns) := hag
  have HSZ : Hid (∀ t ∈ ns, t.size ≤ maxLen) := hsz
  have hR0 : CutR (w.alloc (.cells #[.slice none 0 0, .slice none 0 0, .slice none 0 0, .slice am n0 capm] 44)) mb N n0 D ns 0 (w.alloc (.cells #[.slice none 0 0, .slice none 0 0, .slice none 0 0, .slice am n0 capm] 44)) := ⟨by simpa [delAll] using hown.alloc _, World.grownBy.refl _ _⟩
  have hsl1 : ∀ i s, ns[i]? = some s → (w.alloc (.cells #[.slice none 0 0, .slice none 0 0, .slice none 0 0, .slice am n0 capm] 44)).cell? ⟨g, i, none⟩ = some (.string s) := by
    intro i s hs
    obtain ⟨b, off, ha, hc⟩ := hsl i s hs
    injection ha with ha
    injection ha with h1 h2
    subst h1 h2
    rw [Nat.zero_add] at hc
    exact Lib.cell?_alloc_some _ hc
  have hcur1 : (w.alloc (.cells #[.slice none 0 0, .slice none 0 0, .slice none 0 0, .slice am n0 capm] 44)).heap[g]? = some (.cells cur 9 (0, 0)) := (RowKit.Below.heap_alloc w _ g hgl).trans hcur
  have HSL : Hid (∀ i s, ns[i]? = some s → (w.alloc (.cells #[.slice none 0 0, .slice none 0 0, .slice none 0 0, .slice am n0 capm] 44)).cell? ⟨g, i, none⟩ = some (.string s)) := hsl1
  have HC : Hid ((w.alloc (.cells #[.slice none 0 0, .slice none 0 0, .slice none 0 0, .slice am n0 capm] 44)).heap[g]? = some (.cells cur 9 (0, 0))) := hcur1
  have HM : Hid (mb < (w.alloc (.cells #[.slice none 0 0, .slice none 0 0, .slice none 0 0, .slice am n0 capm] 44)).heap.size ∧ w.heap.size < (w.alloc (.cells #[.slice none 0 0, .slice none 0 0, .slice none 0 0, .slice am n0 capm] 44)).heap.size ∧ mb < w.heap.size) := ⟨by simp; omega, by simp, hmlt⟩
  clear h hcs hlt hag hown hsl hsl1 hcur hcur1 hmlt hsz
  have HL : Hid (g < (w.alloc (.cells #[.slice none 0 0, .slice none 0 0, .slice none 0 0, .slice am n0 capm] 44)).heap.size ∧ sb < (w.alloc (.cells #[.slice none 0 0, .slice none 0 0, .slice none 0 0, .slice am n0 capm] 44)).heap.size ∧ w.heap.size ≠ mb ∧ w.heap.size ≠ g) := ⟨by simp; omega, by have := World.block_lt_of_cell? _ _ hM.c0; exact this, by have := HM.out.2.2; omega, by omega⟩
  clear hgl
  go_enter Try.func27, Try.ntmps27
  go_wp2_with fail
  generalize hWW : w.alloc (.cells #[.slice none 0 0, .slice none 0 0, .slice none 0 0, .slice am n0 capm] 44) = W at *
  have HW : Hid (w.alloc (.cells #[.slice none 0 0, .slice none 0 0, .slice none 0 0, .slice am n0 capm] 44) = W) := hWW
  clear hWW
  generalize w.heap.size = mk at *
  have HMk : Hid (Mk sb mk (some ⟨g, 0, none⟩) am ns.length n0 cap capm mb W) := hM
  obtain ⟨c0, c1, c2, c3, f0, f1, f2, m0, m1, m3, ne⟩ := hM
  have hcc : ¬ cap = n0 := by omega
  go_region
  go_wp2_with fail
  go_quiet (fail)
  go_wp2_with fail
  clear c0 c1 c2 f0 f1 f2 m0 m1 m3
  go_loopw [23] (fun i wr => ∃ j : Nat, j ≤ ns.length - n0 ∧ i = .int .i64 j ∧ CutR W mb N n0 D ns j wr) (fun i _ => ns.length - n0 - (intOf i).toNat)
  case atStart => exact ⟨0, Nat.zero_le _, rfl, (hR0.drewN 1).drewN _⟩
  case round =>
    clear hR0
    obtain ⟨j, hj, rfl, hR⟩ := hrel
    by_cases hlt : j < ns.length - n0
    · obtain ⟨t, ht⟩ := getElem?_of_lt ns (n0 + j) (by omega)
      have hji : (j : Int) < ((ns.length - n0 : Nat) : Int) := by omega
      have d3 := hR.grown.cell c3 (fun e => hsm (Option.some.inj e))
      have dt := hR.grown.cell (HSL.out _ _ ht) (fun e => hgm (Option.some.inj e))
      have hkey : keyOf Try.prog 9 (.string t) = some (.string t.data.toList) := keyOf_string_mk Try.underlying9 (HSZ.out t (List.mem_of_getElem? ht))
      have HT : Hid (ns[n0 + j]? = some t) := ht
      clear ht c3
      go_wp2_with (first
        | (at_delete; refine wpList_delete_own _ rfl _ _ 48 9 rfl 33 law Try.underlying48 _ mb N _ rfl hR.own _ _ rfl hkey ?_
           intro w1 hown1 hturn1
           have hR1 := hR.next HT.out hown1 hturn1
           clear hR hown1 hturn1 d3 dt hkey))
      go_roundw
      case rel => exact ⟨j + 1, by omega, by go_num, hR1⟩
      case measure => simp [intOf]; omega
    · have hjj : j = ns.length - n0 := by omega
      subst hjj
      obtain ⟨hL1, hL2, hL3, hL4⟩ := HL.out
      have hmkl : mk < W.heap.size := HM.out.2.1
      have hMw := HMk.out.kept (hR.grown.block sb hL2 (fun e => hsm (Option.some.inj e))) (hR.grown.block mk hmkl (fun e => hL3 (Option.some.inj e)))
      have hW2 := hR.done hgm hL1 (List.replicate (ns.length - n0) (.string ByteArray.empty))
      have hrow : wr.drew.heap[g]? = some (.cells cur 9 (0, 0)) := (hR.grown.block g hL1 (fun e => hgm (Option.some.inj e))).trans HC.out
      have hclr : ∀ ty, (Builtin.clear_ #[28] ty #[.slice (some ⟨g, n0, none⟩) (ns.length - n0) (cap - n0)]).run Try.prog wr.drew = .ok (.tuple #[]) (wr.drew.setCells g n0 (List.replicate (ns.length - n0) (.string ByteArray.empty))) := fun ty =>
        Lib.run_clear_slice wr.drew 28 9 ty (.string ByteArray.empty) Try.underlying28 zero9 rfl rfl g n0 _ _ (by omega)
          (fun j hj => by rw [cell_of_row wr.drew g _ cur 9 (0, 0) hrow, Array.getElem?_eq_getElem (by omega)]; rfl) (fun j hj => by simp [World.frozen?, hrow])
      generalize wr.drew.setCells g n0 (List.replicate (ns.length - n0) (.string ByteArray.empty)) = W2 at hclr hW2
      have hM2 := HMk.out.kept (hW2.block sb hL2 hsm (Ne.symm hgs)) (hW2.block mk hmkl hL3 hL4)
      clear hrow hR
      obtain ⟨c0, c1, c2, c3, f0, f1, f2, m0, m1, m3, _⟩ := hMw
      obtain ⟨d0, d1, d2, d3, e0, e1, e2, l0, l1, l3, _⟩ := hM2
      have HW2 : Hid _ := hW2
      clear hW2
      go_wp2_with fail
      go_region
      go_wp2_with fail
      go_region
      go_wp2_with fail
      go_end0
      refine ⟨rfl, D, W2.drew, HA.out, ?_, rfl⟩
      rw [HW.out]
      exact HW2.out.drew

/-! ### the store behind a cut -/
theorem cutW_grown (W : World) (sb : Nat) (v : Value) : W.grownBy (cutW W sb v) (some sb) :=
  ((grownBy_set W sb 1 _).trans (grownBy_set _ sb 0 _)).trans (grownBy_set _ sb 2 v)

theorem cutW_cells {W : World} {sb mb : Nat} {x : Value} (h : W.heap[sb]? = some (.cells #[.slice none 0 0, .slice none 0 0, x, .map (some mb)] 50 (0, 0))) (v : Value) :
    (cutW W sb v).heap[sb]? = some (.cells #[.slice none 0 0, .slice none 0 0, v, .map (some mb)] 50 (0, 0)) := by
  have h1 := heap_setCell_same W sb 1 _ 50 (.slice none 0 0) h
  have h2 := heap_setCell_same _ sb 0 _ 50 (.slice none 0 0) h1
  have h3 := heap_setCell_same _ sb 2 _ 50 v h2
  simpa [cutW] using h3

/-- What a cut leaves as it was. -/
structure Fc (sb mb : Nat) (a : Option Addr) (w w' : World) : Prop where
  os : w'.os = w.os
  tape : w'.tape = w.tape
  output : w'.output = w.output
  size : w.heap.size ≤ w'.heap.size
  block : ∀ k, k < w.heap.size → k ≠ sb → k ≠ mb → some k ≠ blk a → w'.heap[k]? = w.heap[k]?

theorem St.cutEnd {B sb mb : Nat} {am : Option Addr} {capm : Nat} {ns0 : List ByteArray} {N : Nat} {W2 : World} {x : Value} {D : DataW Unit} (hcs : W2.heap[sb]? = some (.cells #[.slice none 0 0, .slice none 0 0, x, .map (some mb)] 50 (0, 0)))
    (hrow : W2.ownsRow B 9 1 (.slice am ns0.length capm) ns0.length (ns0.map Value.string)) (hown : W2.ownsMap Try.prog 9 (plainElem Try.prog 33) mb N D) (hag : Agree D ns0) (h1 : B ≤ sb) (h2 : B ≤ mb) (h3 : B ≤ W2.heap.size) (hsm : sb ≠ mb) :
    St B sb mb am capm ns0 N (cutW W2 sb (.slice am ns0.length capm)) := by
  have hg := cutW_grown W2 sb (.slice am ns0.length capm)
  refine ⟨cutW_cells hcs _, hrow.kept hg (.inr (fun e => ?_)), ⟨D, hown.kept hg (fun e => hsm (Option.some.inj e).symm), hag⟩, h1, h2, Nat.le_trans h3 hg.size⟩
  obtain ⟨cur, hc⟩ := row_blk hrow e
  rw [hcs] at hc
  cases hc

/-- A row of strings lasts while the map is written and the names' row from the n-th element on. -/
theorem ownsRow_cut {B mb g n : Nat} {w w' : World} {cur cur' : Array Value} (hg : w.heap[g]? = some (.cells cur 9 (0, 0))) (hg' : w'.heap[g]? = some (.cells cur' 9 (0, 0))) (hs : cur'.size = cur.size)
    (ht : cur'.toList.take n = cur.toList.take n) (ho : ∀ k, k < w.heap.size → k ≠ mb → k ≠ g → w'.heap[k]? = w.heap[k]?) (hm : ∃ es cl, w.heap[mb]? = some (.map es cl))
    {m : Value} {k : Nat} {ys : List Value} (h : w.ownsRow B 9 1 m k ys) (hk : k ≤ n) : w'.ownsRow B 9 1 m k ys := by
  refine ⟨h.1, ?_⟩
  rcases h.2 with hn | ⟨g1, cap, cur1, hv, hb, hgg, h1, h2, h3, h4⟩
  · exact .inl hn
  · by_cases e1 : g1 = g
    · subst e1
      rw [hg] at hgg
      cases hgg
      refine .inr ⟨g1, cap, cur', hv, hb, hg', h1, h2, by rw [hs]; exact h3, ?_⟩
      have e2 : cur'.toList.take (k * 1) = cur.toList.take (k * 1) := by
        have := congrArg (List.take (k * 1)) ht
        rwa [List.take_take, List.take_take, Nat.min_eq_left (by omega)] at this
      rw [e2]; exact h4
    · refine .inr ⟨g1, cap, cur1, hv, hb, ?_, h1, h2, h3, h4⟩
      rw [ho g1 (Array.getElem?_eq_some_iff.1 hgg).1 (fun e => ?_) e1]
      · exact hgg
      · obtain ⟨es, cl, hm⟩ := hm
        rw [e, hm] at hgg
        cases hgg

/-- CUT: the store holds the mark's names again. -/
theorem cut_any (B sb mb : Nat) (a am : Option Addr) (cap capm : Nat) (ns0 rest : List ByteArray) (N : Nat) (w : World) (h : St B sb mb a cap (ns0 ++ rest) N w)
    (hm : w.ownsRow B 9 1 (.slice am ns0.length capm) ns0.length (ns0.map Value.string)) (hnd : (ns0 ++ rest).Nodup) (hsz : ∀ t ∈ ns0 ++ rest, t.size ≤ maxLen) :
    Calls Try.prog 27 #[.pointer (some ⟨sb, 0, none⟩), .agg #[.slice none 0 0, .slice none 0 0, .slice none 0 0, .slice am ns0.length capm]] w fun e w' => e = .returned (.tuple #[]) ∧ St B sb mb am capm ns0 N w' ∧ Fc sb mb a w w' := by
  have hlt := h.lt
  have hmlt := h.mlt
  have hB := h.hB
  obtain ⟨D0, hown0, hag0⟩ := h.map
  by_cases hr : rest = []
  · subst hr
    rw [List.append_nil] at h hag0
    refine (cut_same B sb mb a am cap capm ns0 N w h).mono ?_
    rintro e w' ⟨rfl, q, rfl⟩
    have hcs1 := (RowKit.Below.heap_alloc w (.cells #[.slice none 0 0, .slice none 0 0, .slice none 0 0, .slice am ns0.length capm] 44) sb hlt).trans h.cells
    have hg := cutW_grown ((w.alloc (.cells #[.slice none 0 0, .slice none 0 0, .slice none 0 0, .slice am ns0.length capm] 44)).drewN q) sb (.slice am ns0.length capm)
    refine ⟨rfl, St.cutEnd (W2 := (w.alloc _).drewN q) hcs1 (hm.alloc _) (hown0.alloc _) hag0 h.hsb h.hmb (by simp; omega) h.sm, hg.os, hg.tape, hg.output, ?_, fun k hk h1 _ _ => ?_⟩
    · have := hg.size; simp at this; omega
    · rw [hg.block k (by simp; omega) (by simpa using h1)]
      exact RowKit.Below.heap_alloc w _ k hk
  · have hlen : ns0.length < (ns0 ++ rest).length := by
      have : 0 < rest.length := by cases rest <;> simp_all
      simp; omega
    obtain ⟨g, cur, rfl, hcur⟩ : ∃ g cur, a = some ⟨g, 0, none⟩ ∧ w.heap[g]? = some (.cells cur 9 (0, 0)) := by
      rcases h.row.2 with ⟨_, e⟩ | ⟨g1, c, cur, e, hb, hg, h1, h2, h3, h4⟩
      · omega
      · injection e with e1 e2 e3
        exact ⟨g1, cur, e1, hg⟩
    refine (cut_more B sb mb g am cap capm ns0.length (ns0 ++ rest) N w h hlen hsz).mono ?_
    rintro e w' ⟨rfl, D, W2, hag, hW2, rfl⟩
    have hgl : g < w.heap.size := (Array.getElem?_eq_some_iff.1 hcur).1
    have hgs : g ≠ sb := fun e => h.not_sb (by decide) h.row (by rw [ownBlock_slice]; simp [blk, e])
    have hsm := h.sm
    have hal : ∀ k, k < w.heap.size → (w.alloc (.cells #[.slice none 0 0, .slice none 0 0, .slice none 0 0, .slice am ns0.length capm] 44)).heap[k]? = w.heap[k]? := fun k hk => RowKit.Below.heap_alloc w _ k hk
    have hcs1 := (hW2.block sb (by simp; omega) hsm (Ne.symm hgs)).trans ((hal sb hlt).trans h.cells)
    obtain ⟨cur', hc1, hc2, hc3⟩ := hW2.row cur ((hal g hgl).trans hcur)
    have hrow2 := ownsRow_cut ((hal g hgl).trans hcur) hc1 hc2 hc3 hW2.block (by obtain ⟨es, cl, hb, _⟩ := hown0; exact ⟨es, cl, (hal mb hmlt).trans hb⟩) (hm.alloc _) (Nat.le_refl _)
    have hg := cutW_grown W2 sb (.slice am ns0.length capm)
    have hs2 := hW2.size
    simp only [World.size_alloc] at hs2
    have hown2 := hW2.own
    rw [List.drop_left] at hown2
    refine ⟨rfl, St.cutEnd hcs1 hrow2 hown2 (hag.cut hnd) h.hsb h.hmb (by omega) hsm, hg.os.trans hW2.os, hg.tape.trans hW2.tape, hg.output.trans hW2.output, ?_, fun k hk h1 h2 h3 => ?_⟩
    · have := hg.size; omega
    · rw [hg.block k (by omega) (by simpa using h1), hW2.block k (by simp; omega) h2 (fun e => h3 (by simp [blk, e]))]
      exact hal k hk

end Go.Proofs.Qxb6000977a
