/-
  ZZMarkOfNames (22), ZZCut (23); two stores side by side; what a script of namings makes of the names.
-/
import Derived.Test.Qxb6000977aCut
namespace Go.Proofs.Qxb6000977a
open Go.RowKit Go.WideMaps Go.Maps

set_option maxHeartbeats 400000 in
theorem mark_any (a : Option Addr) (n cap : Nat) (w : World) :
    Calls Try.prog 22 #[.slice a n cap] w fun e w' => e = .returned (.agg #[.slice none 0 0, .slice none 0 0, .slice none 0 0, .slice a n cap]) ∧ Below w.heap.size w w' := by
  go_enter Try.func22, Try.ntmps22
  go_wp2
  refine bodyPost_ret (v := .agg #[.slice none 0 0, .slice none 0 0, .slice none 0 0, .slice a n cap]) (by simp [results, Try.results22, go_sem]) rfl ⟨rfl, ?_⟩
  exact (Below.refl _ _).alloc (Nat.le_refl _) _

theorem St.below {B sb mb : Nat} {a : Option Addr} {cap : Nat} {ns : List ByteArray} {N : Nat} {w w' : World} (h : St B sb mb a cap ns N w) (hb : Below w.heap.size w w') : St B sb mb a cap ns N w' :=
  h.grown (row := none) ⟨hb.os, hb.tape, hb.output, hb.size, fun k hk _ => hb.block k hk⟩ (by simp) (by simp) (by cases blk a <;> simp)

set_option maxHeartbeats 400000 in
theorem zcut_any (B sb mb : Nat) (a am : Option Addr) (cap capm : Nat) (ns0 rest : List ByteArray) (N : Nat) (w : World) (h : St B sb mb a cap (ns0 ++ rest) N w)
    (hm : w.ownsRow B 9 1 (.slice am ns0.length capm) ns0.length (ns0.map Value.string)) (hnd : (ns0 ++ rest).Nodup) (hsz : ∀ t ∈ ns0 ++ rest, t.size ≤ maxLen) :
    Calls Try.prog 23 #[.pointer (some ⟨sb, 0, none⟩), .agg #[.slice none 0 0, .slice none 0 0, .slice none 0 0, .slice am ns0.length capm]] w fun e w' => e = .returned (.tuple #[]) ∧ St B sb mb am capm ns0 N w' ∧ Fc sb mb a w w' := by
  have hb : Below w.heap.size w (w.alloc (.cells #[.slice none 0 0, .slice none 0 0, .slice none 0 0, .slice am ns0.length capm] 44)) := (Below.refl _ _).alloc (Nat.le_refl _) _
  have h1 : Hid (St B sb mb a cap (ns0 ++ rest) N (w.alloc (.cells #[.slice none 0 0, .slice none 0 0, .slice none 0 0, .slice am ns0.length capm] 44))) := h.below hb
  have hm1 : Hid ((w.alloc (.cells #[.slice none 0 0, .slice none 0 0, .slice none 0 0, .slice am ns0.length capm] 44)).ownsRow B 9 1 (.slice am ns0.length capm) ns0.length (ns0.map Value.string)) := hm.alloc _
  have HN : Hid ((ns0 ++ rest).Nodup) := hnd
  have HZ : Hid (∀ t ∈ ns0 ++ rest, t.size ≤ maxLen) := hsz
  clear h hm hnd hsz hb
  go_enter Try.func23, Try.ntmps23
  go_wp2_with fail
  refine (cut_any B sb mb a am cap capm ns0 rest N _ h1.out hm1.out HN.out HZ.out).mono ?_
  rintro e w' ⟨rfl, hst, hfc⟩
  go_wp2_with fail
  go_end0
  refine ⟨rfl, hst, hfc.os, hfc.tape, hfc.output, ?_, fun k hk h1 h2 h3 => ?_⟩
  · have := hfc.size; simp at this; omega
  · rw [hfc.block k (by simp; omega) h1 h2 h3]
    exact RowKit.Below.heap_alloc w _ k hk

/-! ### a script of namings -/
def nmAll (ns : List ByteArray) (ts : List ByteArray) : List ByteArray := ts.foldl nmL ns

theorem nmAll_nil (ns : List ByteArray) : nmAll ns [] = ns := rfl
theorem nmAll_take (ns ts : List ByteArray) {k : Nat} {t : ByteArray} (h : ts[k]? = some t) : nmAll ns (ts.take (k + 1)) = nmL (nmAll ns (ts.take k)) t := by
  have e : ts.take (k + 1) = ts.take k ++ [t] := by rw [List.take_add_one, h]; rfl
  rw [e]
  simp [nmAll]
theorem nmL_prefix (ns : List ByteArray) (t : ByteArray) : ∃ r, nmL ns t = ns ++ r := by
  cases h : ix ns t with
  | some k => exact ⟨[], by rw [nmL_some h, List.append_nil]⟩
  | none => exact ⟨[t], nmL_none h⟩
theorem nmAll_prefix : ∀ (ts ns : List ByteArray), ∃ r, nmAll ns ts = ns ++ r
  | [], ns => ⟨[], (List.append_nil ns).symm⟩
  | t :: ts, ns => by
    obtain ⟨r1, h1⟩ := nmL_prefix ns t
    obtain ⟨r2, h2⟩ := nmAll_prefix ts (nmL ns t)
    exact ⟨r1 ++ r2, by show nmAll (nmL ns t) ts = _; rw [h2, h1, List.append_assoc]⟩
theorem nmL_nodup {ns : List ByteArray} (h : ns.Nodup) (t : ByteArray) : (nmL ns t).Nodup := by
  cases e : ix ns t with
  | some k => rw [nmL_some e]; exact h
  | none =>
    rw [nmL_none e]
    refine List.nodup_append.2 ⟨h, by simp, fun x hx y hy => ?_⟩
    simp at hy
    subst hy
    intro e'
    subst e'
    exact mem_ix_none e hx
theorem nmAll_nodup : ∀ (ts : List ByteArray) {ns : List ByteArray}, ns.Nodup → (nmAll ns ts).Nodup
  | [], _, h => h
  | t :: ts, _, h => nmAll_nodup ts (nmL_nodup h t)
theorem nmL_mem {ns : List ByteArray} {t s : ByteArray} (h : s ∈ nmL ns t) : s ∈ ns ∨ s = t := by
  cases e : ix ns t with
  | some k => rw [nmL_some e] at h; exact .inl h
  | none => rw [nmL_none e] at h; simpa using h
theorem nmAll_mem : ∀ (ts ns : List ByteArray) {s : ByteArray}, s ∈ nmAll ns ts → s ∈ ns ∨ s ∈ ts
  | [], _, _, h => .inl h
  | t :: ts, ns, s, h => by
    rcases nmAll_mem ts (nmL ns t) h with h | h
    · rcases nmL_mem h with h | rfl
      · exact .inl h
      · exact .inr List.mem_cons_self
    · exact .inr (List.mem_cons_of_mem _ h)
theorem nmAll_length : ∀ (ts ns : List ByteArray), ns.length ≤ (nmAll ns ts).length ∧ (nmAll ns ts).length ≤ ns.length + ts.length
  | [], _ => ⟨Nat.le_refl _, Nat.le_refl _⟩
  | t :: ts, ns => by
    have h1 := nmAll_length ts (nmL ns t)
    have h2 := nmL_length ns t
    have e : nmAll ns (t :: ts) = nmAll (nmL ns t) ts := rfl
    rw [e]
    simp only [List.length_cons]
    omega

/-! ### two stores -/
theorem St.keptBy {B sb mb : Nat} {a : Option Addr} {cap : Nat} {ns : List ByteArray} {N : Nat} {w w' : World} (h : St B sb mb a cap ns N w) (hs : w.heap.size ≤ w'.heap.size)
    (h1 : w'.heap[sb]? = w.heap[sb]?) (h2 : w'.heap[mb]? = w.heap[mb]?) (h3 : ∀ g, blk a = some g → w'.heap[g]? = w.heap[g]?) : St B sb mb a cap ns N w' := by
  obtain ⟨D, ⟨es, cl, hb, r⟩, hag⟩ := h.map
  refine ⟨h1.trans h.cells, ⟨h.row.1, ?_⟩, ⟨D, ⟨es, cl, h2.trans hb, r⟩, hag⟩, h.hsb, h.hmb, Nat.le_trans h.hB hs⟩
  rcases h.row.2 with hn | ⟨g1, c, cur, hv, hb, hg, r⟩
  · exact .inl hn
  · refine .inr ⟨g1, c, cur, hv, hb, (h3 g1 ?_).trans hg, r⟩
    injection hv with e1 e2 e3
    rw [e1]; rfl

/-- Two stores that share no memory. -/
structure Two (B sb mb fb fmb : Nat) (a : Option Addr) (cap : Nat) (af : Option Addr) (capf : Nat) (ns nf : List ByteArray) (N Nf : Nat) (wr : World) : Prop where
  s : St B sb mb a cap ns N wr
  f : St B fb fmb af capf nf Nf wr
  ne : sb ≠ fb
  nm : mb ≠ fmb
  apart : ∀ g, blk a = some g → blk af ≠ some g

theorem Two.symm {B sb mb fb fmb : Nat} {a : Option Addr} {cap : Nat} {af : Option Addr} {capf : Nat} {ns nf : List ByteArray} {N Nf : Nat} {wr : World} (h : Two B sb mb fb fmb a cap af capf ns nf N Nf wr) : Two B fb fmb sb mb af capf a cap nf ns Nf N wr :=
  ⟨h.f, h.s, h.ne.symm, h.nm.symm, fun g h1 h2 => h.apart g h2 h1⟩

theorem Two.left {B sb mb fb fmb : Nat} {a : Option Addr} {cap : Nat} {af : Option Addr} {capf : Nat} {ns nf : List ByteArray} {N Nf : Nat} {wr : World} (h : Two B sb mb fb fmb a cap af capf ns nf N Nf wr)
    {ns' : List ByteArray} {N' n : Nat} {w' : World} {a' : Option Addr} {cap' : Nat} (hst : St B sb mb a' cap' ns' N' w') (hfr : Fr B sb mb a n wr w' a') : Two B sb mb fb fmb a' cap' af capf ns' nf N' Nf w' := by
  have rs := h.s.row
  have rf := h.f.row
  have key : ∀ k, k < wr.heap.size → k ≠ sb → k ≠ mb → (∀ cur, wr.heap[k]? = some (.cells cur 9 (0, 0)) → blk a ≠ some k) → w'.heap[k]? = wr.heap[k]? := by
    intro k hk h1 h2 h3
    refine hfr.block k hk h1 h2 (fun e => ?_)
    obtain ⟨cur, hc⟩ := row_blk rs (by rw [ownBlock_slice]; exact e.symm)
    exact h3 cur hc e.symm
  have hfm : fb ≠ mb := by
    rintro rfl
    obtain ⟨D, ⟨es, cl, hb, _⟩, _⟩ := h.s.map
    rw [h.f.cells] at hb
    cases hb
  have hmf : fmb ≠ sb := by
    rintro rfl
    obtain ⟨D, ⟨es, cl, hb, _⟩, _⟩ := h.f.map
    rw [h.s.cells] at hb
    cases hb
  refine ⟨hst, h.f.keptBy hfr.size (key fb h.f.lt h.ne.symm hfm (fun cur hc => ?_)) (key fmb h.f.mlt hmf h.nm.symm (fun cur hc => ?_)) (fun g hg => ?_), h.ne, h.nm, fun g h1 h2 => ?_⟩
  · rw [h.f.cells] at hc; cases hc
  · obtain ⟨D, ⟨es, cl, hb, _⟩, _⟩ := h.f.map
    rw [hc] at hb; cases hb
  · have hlt := (rf.lt g (by rw [ownBlock_slice]; exact hg)).2
    refine key g hlt (fun e => ?_) (fun e => ?_) (fun cur _ => fun e => h.apart g e hg)
    · subst e; exact h.s.not_sb (by decide) rf (by rw [ownBlock_slice]; exact hg)
    · subst e; exact h.s.not_mb rf (by rw [ownBlock_slice]; exact hg)
  · have hlt := (rf.lt g (by rw [ownBlock_slice]; exact h2)).2
    rcases hfr.loc with e | ⟨g', e, hg'⟩
    · exact h.apart g (e ▸ h1) h2
    · rw [e] at h1
      have := Option.some.inj h1
      omega

end Go.Proofs.Qxb6000977a
