/-
  THE STORE IN MEMORY: 'St': a struct's block, its map's block, the row of its names; 'Fr': what a call that names leaves as it was. The walks of ZZNewStore (15), ZZNames (19), name (26), ZZName (16).
-/
import Derived.Test.Qxb6000977aReads
import Derived.Test.Qxb6000977aAppend
namespace Go.Proofs.Qxb6000977a
open Go.RowKit Go.WideMaps Go.Maps

theorem law : Keyed Try.prog 9 := string_keyed Try.underlying9
theorem zero33 (w : World) : (zeroValue 33).run Try.prog w = .ok (.int .u64 0) w := by kernel_rfl
theorem info9 : (Try.prog.info? 9).map (fun i => (i.zero, i.size, i.bytes)) = some (some (.string ByteArray.empty), 1, 16) := by kernel_rfl

/-- The map D gives each of the names its place, and no other text. -/
structure Agree (D : DataW Unit) (ns : List ByteArray) : Prop where
  isMap : Maps.IsMap D
  hit : ∀ t k, ix ns t = some k → Maps.has D (.string t.data.toList) = true ∧ D.atKey (.string t.data.toList) (.lit (.int .u64 0)) = .lit (.int .u64 (k : Int))
  miss : ∀ t, ix ns t = none → Maps.has D (.string t.data.toList) = false

theorem key_ne {s t : ByteArray} (h : ¬ s = t) : (Lit.string s.data.toList) ≠ (Lit.string t.data.toList) := by
  intro e
  injection e with e
  exact h (bytes_eq (by rw [ByteArray.toList_eq, ByteArray.toList_eq]; exact e))

theorem Agree.empty : Agree (.map []) [] :=
  ⟨Maps.isMap_empty, fun t k h => by simp [ix] at h, fun t _ => rfl⟩

theorem ix_snoc_ne {ns : List ByteArray} {t s : ByteArray} (h : ¬ s = t) : ix (ns ++ [t]) s = ix ns s := by
  cases e : ix ns s with
  | some k => exact ix_append_of_some ns [t] s k e
  | none => rw [ix_append_of_none ns [t] s e]; simp [ix, Ne.symm h]

theorem ix_snoc_self {ns : List ByteArray} {t : ByteArray} (h : ix ns t = none) : ix (ns ++ [t]) t = some ns.length := by
  rw [ix_append_of_none ns [t] t h]; simp [ix]

theorem keyLit (l : List UInt8) : WideAt.IsKeyLit (.string l) := trivial

theorem Agree.put {D : DataW Unit} {ns : List ByteArray} (h : Agree D ns) {t : ByteArray} (ht : ix ns t = none) :
    Agree (D.put (.string t.data.toList) (.lit (.int .u64 (ns.length : Int)))) (ns ++ [t]) := by
  refine ⟨h.isMap.put _ _, fun s k hs => ?_, fun s hs => ?_⟩
  · by_cases e : s = t
    · subst e
      rw [ix_snoc_self ht] at hs
      cases hs
      exact ⟨Maps.has_put_same h.isMap (keyLit _) _, Maps.atKey_put_same h.isMap (keyLit _) _ _⟩
    · rw [ix_snoc_ne e] at hs
      rw [Maps.has_put_other (key_ne e), Maps.atKey_put_other (key_ne e)]
      exact h.hit s k hs
  · by_cases e : s = t
    · subst e
      rw [ix_snoc_self ht] at hs
      cases hs
    · rw [ix_snoc_ne e] at hs
      rw [Maps.has_put_other (key_ne e)]
      exact h.miss s hs

/-- The block of an address. -/
def blk (a : Option Addr) : Option Nat := a.map Addr.block

/-- A store at block sb, its map at block mb, its names the slice (a, ns.length, cap): all in blocks from B on; at most N entries were ever put into the map. -/
structure St (B sb mb : Nat) (a : Option Addr) (cap : Nat) (ns : List ByteArray) (N : Nat) (w : World) : Prop where
  cells : w.heap[sb]? = some (.cells #[.slice none 0 0, .slice none 0 0, .slice a ns.length cap, .map (some mb)] 50 (0, 0))
  row : w.ownsRow B 9 1 (.slice a ns.length cap) ns.length (ns.map Value.string)
  map : ∃ D, w.ownsMap Try.prog 9 (plainElem Try.prog 33) mb N D ∧ Agree D ns
  hsb : B ≤ sb
  hmb : B ≤ mb
  hB : B ≤ w.heap.size

/-- What naming in the store (sb, mb, a) leaves as it was; n: how many names there were. -/
structure Fr (B sb mb : Nat) (a : Option Addr) (n : Nat) (w w' : World) (a' : Option Addr) : Prop where
  os : w'.os = w.os
  tape : w'.tape = w.tape
  output : w'.output = w.output
  size : w.heap.size ≤ w'.heap.size
  block : ∀ k, k < w.heap.size → k ≠ sb → k ≠ mb → some k ≠ blk a → w'.heap[k]? = w.heap[k]?
  loc : blk a' = blk a ∨ ∃ g, blk a' = some g ∧ w.heap.size ≤ g
  rows : ∀ u k ys, w.ownsRow B 9 1 u k ys → k ≤ n → w'.ownsRow B 9 1 u k ys

theorem Fr.refl (B sb mb : Nat) (a : Option Addr) (n : Nat) (w : World) : Fr B sb mb a n w w a :=
  ⟨rfl, rfl, rfl, Nat.le_refl _, fun _ _ _ _ _ => rfl, .inl rfl, fun _ _ _ h _ => h⟩

theorem ownBlock_slice (a : Option Addr) (n c : Nat) : (Value.slice a n c).ownBlock = blk a := by cases a <;> rfl

theorem St.mono {B sb mb : Nat} {a : Option Addr} {cap : Nat} {ns : List ByteArray} {N N' : Nat} {w : World} (h : St B sb mb a cap ns N w) (hN : N ≤ N') : St B sb mb a cap ns N' w :=
  ⟨h.cells, h.row, let ⟨D, h1, h2⟩ := h.map; ⟨D, h1.mono hN, h2⟩, h.hsb, h.hmb, h.hB⟩

theorem St.c2 {B sb mb : Nat} {a : Option Addr} {cap : Nat} {ns : List ByteArray} {N : Nat} {w : World} (h : St B sb mb a cap ns N w) : w.cell? ⟨sb, 2, none⟩ = some (.slice a ns.length cap) := by
  rw [cell_of_row w sb 2 _ 50 (0, 0) h.cells]; rfl
theorem St.c3 {B sb mb : Nat} {a : Option Addr} {cap : Nat} {ns : List ByteArray} {N : Nat} {w : World} (h : St B sb mb a cap ns N w) : w.cell? ⟨sb, 3, none⟩ = some (.map (some mb)) := by
  rw [cell_of_row w sb 3 _ 50 (0, 0) h.cells]; rfl
theorem St.fz {B sb mb : Nat} {a : Option Addr} {cap : Nat} {ns : List ByteArray} {N : Nat} {w : World} (h : St B sb mb a cap ns N w) (j : Nat) : w.frozen? ⟨sb, j, none⟩ = false := by
  simp [World.frozen?, h.cells]
theorem St.sl {B sb mb : Nat} {a : Option Addr} {cap : Nat} {ns : List ByteArray} {N : Nat} {w : World} (h : St B sb mb a cap ns N w) : Sl w a ns := by
  intro i s hs
  have hlt : i < ns.length := (List.getElem?_eq_some_iff.1 hs).1
  rcases h.row.2 with ⟨e, hn⟩ | ⟨g, c, cur, e, hb, hg, h1, h2, h3, h4⟩
  · omega
  · injection e with e1 e2 e3
    subst e1
    refine ⟨g, 0, rfl, ?_⟩
    rw [cell_of_row w g _ cur 9 (0, 0) hg]
    have : (ns.map Value.string)[i]? = some (.string s) := by simp [hs]
    rw [← h4, List.getElem?_take, if_pos (by omega)] at this
    simpa using this

set_option maxHeartbeats 400000 in
theorem name_hit (B sb mb : Nat) (a : Option Addr) (cap : Nat) (ns : List ByteArray) (N : Nat) (w : World) (t : ByteArray) (k : Nat)
    (h : St B sb mb a cap ns N w) (ht : t.size ≤ maxLen) (hk : ix ns t = some k) :
    Calls Try.prog 26 #[.pointer (some ⟨sb, 0, none⟩), .string t] w fun e w' => e = .returned (.int .u64 (k : Int)) ∧ w' = w := by
  have c2 := h.c2
  have c3 := h.c3
  obtain ⟨D, hown, hag⟩ := h.map
  have hkey : keyOf Try.prog 9 (.string t) = some (.string t.data.toList) := keyOf_string_mk Try.underlying9 ht
  have hhas := (hag.hit t k hk).1
  have Hat : Hid (D.atKey (.string t.data.toList) (.lit (.int .u64 0)) = .lit (.int .u64 (k : Int))) := (hag.hit t k hk).2
  clear hag h hk
  go_enter Try.func26, Try.ntmps26
  go_wp2_with (first
    | (at_lookup; refine wpList_lookup_own_ok_int _ rfl _ _ 48 rfl 9 33 .u64 law Try.underlying48 Try.underlying33 (zero33 _) mb N D rfl hown _ _ rfl hkey ?_; intro c hat hwc))
  have hc : c = (k : Int) := by
    have := hat.symm.trans Hat.out
    injection this with this
    injection this with _ this
  go_ret
  exact ⟨ret_int hc, rfl⟩

theorem wf_u64 {n : Nat} (h : n ≤ 1000000) : (Lit.int .u64 (n : Int)).wf = true := by
  have h1 : IntKind.u64.min = 0 := rfl
  have h2 : IntKind.u64.max = 18446744073709551615 := rfl
  simp only [Lit.wf, Bool.and_eq_true, decide_eq_true_eq, h1, h2]
  omega

theorem one_string (t : ByteArray) : ∀ u ∈ [Value.string t], u.oneCell' = true := by
  intro u hu
  simp at hu
  subst hu
  rfl

section
variable {B sb mb : Nat} {a : Option Addr} {cap : Nat} {ns : List ByteArray} {N : Nat} {w : World}

theorem St.lt (h : St B sb mb a cap ns N w) : sb < w.heap.size := (Array.getElem?_eq_some_iff.1 h.cells).1
theorem St.mlt (h : St B sb mb a cap ns N w) : mb < w.heap.size := by
  obtain ⟨D, h1, _⟩ := h.map
  exact h1.lt
theorem St.sm (h : St B sb mb a cap ns N w) : sb ≠ mb := by
  rintro rfl
  obtain ⟨D, ⟨es, cl, hb, _⟩, _⟩ := h.map
  rw [h.cells] at hb
  cases hb
/-- The block of a row of strings is no struct's and no map's. -/
theorem row_blk {g e : Nat} {n : Nat} {xs : List Value} {v : Value} (h : w.ownsRow B e 1 v n xs) (hg : v.ownBlock = some g) : ∃ cur, w.heap[g]? = some (.cells cur e (0, 0)) := by
  rcases h.2 with ⟨rfl, _⟩ | ⟨g', c, cur, rfl, _, hgg, _⟩
  · simp [Value.ownBlock] at hg
  · simp [Value.ownBlock] at hg
    subst hg
    exact ⟨cur, hgg⟩
theorem St.not_sb (h : St B sb mb a cap ns N w) {v : Value} {n : Nat} {xs : List Value} {e : Nat} (he : e ≠ 50) (hr : w.ownsRow B e 1 v n xs) : v.ownBlock ≠ some sb := by
  intro hg
  obtain ⟨cur, hc⟩ := row_blk hr hg
  rw [h.cells] at hc
  cases hc
  exact he rfl
/-- The struct's block behind a store into the map, one new block, and a change of the names' row. -/
theorem St.after (h : St B sb mb a cap ns N w) {w1 w2 : World} {o : Obj} (hg1 : w.grownBy w1 (some mb)) (hg2 : (w1.alloc o).grownBy w2 (Value.slice a ns.length cap).ownBlock) :
    w2.heap[sb]? = some (.cells #[.slice none 0 0, .slice none 0 0, .slice a ns.length cap, .map (some mb)] 50 (0, 0)) := by
  have hlt := h.lt
  have hs := hg1.size
  have e1 := hg1.block sb hlt (fun e => h.sm (Option.some.inj e))
  have e2 := RowKit.Below.heap_alloc w1 o sb (by omega)
  have e3 := hg2.block sb (by simp; omega) (fun e => h.not_sb (by decide) h.row e.symm)
  rw [e3, e2, e1]; exact h.cells
theorem St.not_mb (h : St B sb mb a cap ns N w) {v : Value} {n : Nat} {xs : List Value} {e : Nat} (hr : w.ownsRow B e 1 v n xs) : v.ownBlock ≠ some mb := by
  intro hg
  obtain ⟨cur, hc⟩ := row_blk hr hg
  obtain ⟨D, ⟨es, cl, hb, _⟩, _⟩ := h.map
  rw [hc] at hb
  cases hb
end

theorem grownBy_set (w : World) (b i : Nat) (v : Value) : w.grownBy (w.setCell ⟨b, i, none⟩ v) (some b) :=
  ⟨rfl, rfl, rfl, by simp [World.setCell], fun k _ hk => RowKit.Below.heap_setCell w _ v k (fun e => hk (by rw [e]))⟩

theorem grownBy_size_set (w : World) (b i : Nat) (v : Value) : (w.setCell ⟨b, i, none⟩ v).heap.size = w.heap.size := by simp [World.setCell]

/-- THE END OF A NAMING: the map's store, the one-cell block, the append, the field's store. -/
theorem St.named {B sb mb : Nat} {a : Option Addr} {cap : Nat} {ns : List ByteArray} {N : Nat} {w : World} (h : St B sb mb a cap ns N w) {t : ByteArray} {D1 : DataW Unit} {w1 w2 : World} {a' : Option Addr} {cap' : Nat} {o : Obj}
    (hown1 : w1.ownsMap Try.prog 9 (plainElem Try.prog 33) mb (N + 1) D1) (hag : Agree D1 (ns ++ [t])) (hg1 : w.grownBy w1 (some mb)) (hg2 : (w1.alloc o).grownBy w2 (Value.slice a ns.length cap).ownBlock)
    (hrow2 : w2.ownsRow B 9 1 (.slice a' (ns.length + 1) cap') (ns.length + 1) (ns.map Value.string ++ [.string t]))
    (hloc : (Value.slice a' (ns.length + 1) cap').ownBlock = (Value.slice a ns.length cap).ownBlock ∨ (Value.slice a' (ns.length + 1) cap').ownBlock = some (w1.alloc o).heap.size)
    (hkeep : ∀ u k ys, (w1.alloc o).ownsRow B 9 1 u k ys → k ≤ ns.length → w2.ownsRow B 9 1 u k ys) :
    St B sb mb a' cap' (ns ++ [t]) (N + 1) (w2.setCell ⟨sb, 2, none⟩ (.slice a' (ns.length + 1) cap')) ∧ Fr B sb mb a ns.length w (w2.setCell ⟨sb, 2, none⟩ (.slice a' (ns.length + 1) cap')) a' := by
  have hcs := h.after hg1 hg2
  have hlt := h.lt
  have hs1 := hg1.size
  have hs2 := hg2.size
  have hsm := h.sm
  have hB := h.hB
  simp only [World.size_alloc] at hs2
  have hset := grownBy_set w2 sb 2 (.slice a' (ns.length + 1) cap')
  have hss := grownBy_size_set w2 sb 2 (.slice a' (ns.length + 1) cap')
  rw [ownBlock_slice, ownBlock_slice] at hloc
  rw [ownBlock_slice] at hg2
  have hsl : sb < w2.heap.size := by omega
  have nsb : ∀ {u : Value} {k : Nat} {ys : List Value}, w2.ownsRow B 9 1 u k ys → u.ownBlock ≠ some sb := by
    intro u k ys hu hg
    obtain ⟨cur, hc⟩ := row_blk hu hg
    rw [hcs] at hc
    cases hc
  refine ⟨⟨?_, ?_, ?_, h.hsb, h.hmb, by omega⟩, ⟨?_, ?_, ?_, by omega, ?_, ?_, ?_⟩⟩
  · rw [heap_setCell_same w2 sb 2 _ 50 _ hcs]; simp
  · have := hrow2.kept hset (.inr (nsb hrow2))
    simpa using this
  · refine ⟨D1, ?_, hag⟩
    have hm2 : w2.ownsMap Try.prog 9 (plainElem Try.prog 33) mb (N + 1) D1 := (hown1.alloc o).kept hg2 (fun e => by
      have := h.not_mb h.row
      rw [ownBlock_slice] at this
      exact this e.symm)
    exact hm2.kept hset (fun e => hsm (Option.some.inj e).symm)
  · exact hg2.os.trans hg1.os
  · exact hg2.tape.trans hg1.tape
  · exact hg2.output.trans hg1.output
  · intro k hk h1 h2 h3
    rw [hset.block k (by omega) (by simpa using h1), hg2.block k (by simp; omega) h3, RowKit.Below.heap_alloc w1 o k (by omega), hg1.block k hk (by simpa using h2)]
  · rcases hloc with e | e
    · exact .inl e
    · exact .inr ⟨_, e, by simp; omega⟩
  · intro u k ys hu hk
    have r1 := hu.kept hg1 (.inr (h.not_mb hu))
    have r2 := hkeep u k ys (r1.alloc o) hk
    exact r2.kept hset (.inr (nsb r2))

set_option maxHeartbeats 400000 in
theorem name_miss (B sb mb : Nat) (a : Option Addr) (cap : Nat) (ns : List ByteArray) (N : Nat) (w : World) (t : ByteArray)
    (h : St B sb mb a cap ns N w) (ht : t.size ≤ maxLen) (hk : ix ns t = none) (hn : ns.length ≤ 1000000) (hN : N ≤ 1000000) :
    Calls Try.prog 26 #[.pointer (some ⟨sb, 0, none⟩), .string t] w fun e w' => e = .returned (.int .u64 (ns.length : Int)) ∧ ∃ a' cap', St B sb mb a' cap' (ns ++ [t]) (N + 1) w' ∧ Fr B sb mb a ns.length w w' a' := by
  have c2 := h.c2
  have c3 := h.c3
  obtain ⟨D, hown, hag⟩ := h.map
  have hkey : keyOf Try.prog 9 (.string t) = some (.string t.data.toList) := keyOf_string_mk Try.underlying9 ht
  have hhas := hag.miss t hk
  obtain ⟨i0, hi, hz0, hz1, hz2⟩ := info_parts info9
  have HSt : Hid (St B sb mb a cap ns N w) := h
  have HK : Hid (ix ns t = none) := hk
  have HA : Hid (Agree D ns) := hag
  clear hag h hk
  go_enter Try.func26, Try.ntmps26
  go_wp2_with (first
    | (at_lookup; refine wpList_lookup_own_ok_int _ rfl _ _ 48 rfl 9 33 .u64 law Try.underlying48 Try.underlying33 (zero33 _) mb N D rfl hown _ _ rfl hkey ?_; intro c hat hwc)
    | (at_mapUpdate; refine wpList_mapUpdate_own _ rfl _ _ _ 48 rfl 9 33 law Try.underlying48 _ mb N D rfl hown (by unfold maxLen; omega) _ _ _ rfl rfl hkey _ [] (plainElem_int Try.underlying33 (wf_u64 hn)) ?_
       intro w1 hown1 hg1
       have d2 := hg1.cell c2 (fun e => HSt.out.sm (Option.some.inj e))
       have hrow1 := HSt.out.row.kept hg1 (.inr (HSt.out.not_mb HSt.out.row))
       clear hat hwc hhas)
    | (at_builtin; refine wpList_append_keep _ rfl _ _ 28 rfl B 9 i0 (.string ByteArray.empty) 1 16 Try.underlying28 hi hz0 hz1 hz2 rfl (by decide) _ ns.length (ns.map Value.string) rfl (hrow1.alloc _) ⟨w1.heap.size, 0, none⟩ 1 1 [.string t] rfl rfl (cell_one_new _ _ _) (one_string t) (by unfold maxLen; omega) (by omega) (by have := HSt.out.hB; have := hg1.size; simp; omega) (by decide) ?_
       intro a' cap' w2 hrow2 hg2 hloc hkeep
       have hcs := HSt.out.after hg1 hg2
       have e2 : w2.cell? ⟨sb, 2, none⟩ = some (.slice a ns.length cap) := by rw [cell_of_row w2 sb 2 _ 50 (0, 0) hcs]; rfl
       have f2 : w2.frozen? ⟨sb, 2, none⟩ = false := by simp [World.frozen?, hcs]
       have HC : Hid _ := hcs
       clear hcs d2 c2 c3 hrow1))
  go_ret
  exact ⟨rfl, _, _, HSt.out.named hown1 (HA.out.put HK.out) hg1 hg2 hrow2 hloc hkeep⟩

end Go.Proofs.Qxb6000977a
