/-
  append ONTO BYTES THAT THE CALL OWNS: the base's laws, with a word more on where the new slice lies, in the form that the walk takes; 'Gr': what such a step leaves as it was.
-/
import Derived.WalkKit
import Derived.Maps.AppendAt
import Derived.Lib.AppendStr
import Derived.Lib.Slices
import Derived.Test.Qxb6001227aDoorRows
namespace Go.Proofs.Qxb6001227aDoor
open Go.RowKit

/-- The block of an address. -/
def blk (a : Option Addr) : Option Nat := a.map Addr.block
theorem ownBlock_slice (a : Option Addr) (n c : Nat) : (Value.slice a n c).ownBlock = blk a := by cases a <;> rfl

theorem row_form {w : World} {B e size : Nat} {v : Value} {n : Nat} {xs : List Value} (h : w.ownsRow B e size v n xs) : ∃ a cap, v = .slice a n cap := by
  rcases h.2 with ⟨rfl, rfl⟩ | ⟨g, c, cur, rfl, _⟩
  · exact ⟨_, _, rfl⟩
  · exact ⟨_, _, rfl⟩

/-- Only the row of the slice a, and new blocks, have turned; the slice that came of it lies in that row or in a new block. -/
structure Gr (w w' : World) (a a' : Option Addr) : Prop where
  g : w.grownBy w' (blk a)
  loc : blk a' = blk a ∨ ∃ g, blk a' = some g ∧ w.heap.size ≤ g

theorem Gr.refl (w : World) (a : Option Addr) : Gr w w a a := ⟨World.grownBy.refl _ _, .inl rfl⟩
theorem Gr.trans {w w1 w2 : World} {a a1 a2 : Option Addr} (h : Gr w w1 a a1) (k : Gr w1 w2 a1 a2) : Gr w w2 a a2 := by
  have hs := h.g.size
  refine ⟨⟨k.g.os.trans h.g.os, k.g.tape.trans h.g.tape, k.g.output.trans h.g.output, Nat.le_trans h.g.size k.g.size, fun i hi hne => ?_⟩, ?_⟩
  · rw [k.g.block i (by omega) (fun e => ?_), h.g.block i hi hne]
    rcases h.loc with e1 | ⟨g, e1, hg⟩
    · exact hne (e.trans e1)
    · rw [e1] at e
      have := Option.some.inj e
      omega
  · rcases k.loc with e | ⟨g, e, hg⟩
    · rw [e]; exact h.loc
    · exact .inr ⟨g, e, by omega⟩
/-- New blocks alone. -/
theorem Gr.of_below {w w' : World} (a : Option Addr) (h : Below w.heap.size w w') : Gr w w' a a :=
  ⟨⟨h.os, h.tape, h.output, h.size, fun k hk _ => h.block k hk⟩, .inl rfl⟩
theorem Gr.alloc (w : World) (a : Option Addr) (o : Obj) : Gr w (w.alloc o) a a := Gr.of_below a ((Below.refl _ _).alloc (Nat.le_refl _) _)
theorem Gr.below {w w' : World} {a a' : Option Addr} {B : Nat} (h : Gr w w' a a') (hB : B ≤ w.heap.size) (ha : ∀ g, blk a = some g → B ≤ g) : Below B w w' :=
  ⟨h.g.os, h.g.tape, h.g.output, h.g.size, fun k hk => h.g.block k (by omega) (fun e => by have := ha k e.symm; omega)⟩
/-- Another row lasts. -/
theorem Gr.row {w w' : World} {a a' : Option Addr} (h : Gr w w' a a') {B e size : Nat} {x : Option Addr} {m c : Nat} {xs : List Value} (hr : w.ownsRow B e size (.slice x m c) m xs) (hne : blk x = none ∨ blk x ≠ blk a) :
    w'.ownsRow B e size (.slice x m c) m xs := hr.kept h.g (by rw [ownBlock_slice]; exact hne)

section
variable {P : Program} (w : World)

/-- Where a string's bytes, appended, come to lie. -/
theorem append_str_loc (base : Nat) (t u ty e : TypeId) (i : TypeInfo) (ht : P.underlying t = some (.slice e)) (hu : P.underlying u = some .string) (hi : P.info? e = some i) (hz : i.zero = some (.int .u8 0))
    (hsize : i.size = 1) (hby : i.bytes = 1) (v : Value) (n : Nat) (xs : List Value) (hown : w.ownsRow base e 1 v n xs) (s : ByteArray) (h63 : n + s.size ≤ maxLen) (hbytes : n + s.size ≤ 140737488355328)
    {v' : Value} {w' : World} (hr : (Builtin.append_ #[t, u] ty #[v, .string s]).run P w = .ok v' w') (h4 : v' = .slice none 0 0 ↔ v = .slice none 0 0 ∧ s.size = 0) :
    v'.ownBlock = v.ownBlock ∨ v'.ownBlock = some w.heap.size := by
  have hsmall : n + s.size ≤ 9223372036854775807 := by simp only [maxLen] at h63; omega
  rcases hown.2 with ⟨rfl, rfl⟩ | ⟨g, cap, cur, rfl, hbg, hg, hnc, hcm, hcs, htake⟩
  · by_cases hm : s.size = 0
    · rw [h4.2 ⟨rfl, hm⟩]; exact .inl rfl
    · have hr2 := run_append_nil_string (P := P) w t u ty e i (.int .u8 0) ht hu hi hz s (by omega) (by omega) (by rw [hby]; omega)
      rw [hr] at hr2
      injection hr2 with e1 e2
      subst e1
      exact .inr rfl
  · by_cases hroom : n + s.size ≤ cap
    · have hr2 := Lib.run_append_room_string (P := P) w t u ty e i ht hu hi hsize g n cap cur hg s hroom (by simpa [hcs] using hroom)
      rw [hr] at hr2
      injection hr2 with e1 e2
      subst e1
      exact .inl rfl
    · have holds : ∀ j u, xs[j]? = some u → w.cell? ((⟨g, 0, none⟩ : Addr).add j) = some u := hown.cells (g := g) rfl
      have hxl : xs.length = n := by simpa using hown.1
      have hr2 := Lib.run_append_grow_string (P := P) w t u ty e i (.int .u8 0) ht hu hi hz ⟨g, 0, none⟩ n cap xs (by rw [hsize]; simpa using hxl) holds s (by omega) (by omega) (by rw [hby]; exact growslice_fits (by omega) (by omega))
      rw [hr] at hr2
      injection hr2 with e1 e2
      subst e1
      exact .inr rfl

theorem loc_of {a a' : Option Addr} {n n' c c' : Nat} (h : (Value.slice a' n' c').ownBlock = (Value.slice a n c).ownBlock ∨ (Value.slice a' n' c').ownBlock = some w.heap.size) : blk a' = blk a ∨ ∃ g, blk a' = some g ∧ w.heap.size ≤ g := by
  rw [ownBlock_slice, ownBlock_slice] at h
  rcases h with h | h
  · exact .inl h
  · exact .inr ⟨_, h, Nat.le_refl _⟩

/-- 'append(b, s...)', s a string, at the operation. -/
theorem wpList_append_str {ops : Array Oper} {rest : List Oper} {o : Oper} {a : Act} {Q : Exit → Act → World → Prop} (hgd : o.guard = none) (sl x : Operand) (t u : TypeId)
    (ho : o.op = .call { callee := .builtin .append, args := #[sl, x], argTypes := #[t, u] })
    (base : Nat) (e : TypeId) (i : TypeInfo) (ht : P.underlying t = some (.slice e)) (hu : P.underlying u = some .string) (hi : P.info? e = some i) (hz : i.zero = some (.int .u8 0))
    (hsize : i.size = 1) (hby : i.bytes = 1)
    (ad : Option Addr) (n cap : Nat) (xs : List Value) (hs : a.eval sl = .slice ad n cap) (hown : w.ownsRow base e 1 (.slice ad n cap) n xs) (s : ByteArray) (hx : a.eval x = .string s)
    (h63 : n + s.size ≤ maxLen) (hbytes : n + s.size ≤ 140737488355328) (hbase : base ≤ w.heap.size)
    (h : ∀ a' cap' w', w'.ownsRow base e 1 (.slice a' (n + s.size) cap') (n + s.size) (xs ++ Lib.strCells s) → Gr w w' ad a' → wpList P ops Q rest (a.put o.dst (.slice a' (n + s.size) cap')) w') : wpList P ops Q (o :: rest) a w := by
  refine wpList_plain hgd fun K hK => ?_
  obtain ⟨v', w', hr, h2, h3, h4⟩ := Lib.run_append_own_string (P := P) w base t u o.type e i ht hu hi hz hsize hby _ n xs hown s h63 hbytes hbase
  have h5 := append_str_loc w base t u o.type e i ht hu hi hz hsize hby _ n xs hown s h63 hbytes hr h4
  obtain ⟨a', cap', rfl⟩ := row_form h2
  unfold Oper.wp execOp
  simp only [ho, resolve, invoke, builtin, Sem.run_bind, Sem.run_pure, Result.andThen_ok, List.map_toArray, List.map_cons, List.map_nil, hs, hx, hr]
  exact hK _ _ (h a' cap' w' h2 ⟨by rw [← ownBlock_slice ad n cap]; exact h3, loc_of w h5⟩)

/-- 'append(b, x...)', x a slice of bytes whose cells are known, at the operation. -/
theorem wpList_append_bs {ops : Array Oper} {rest : List Oper} {o : Oper} {a : Act} {Q : Exit → Act → World → Prop} (hgd : o.guard = none) (s x : Operand) (t : TypeId)
    (ho : o.op = .call { callee := .builtin .append, args := #[s, x], argTypes := #[t, t] })
    (base : Nat) (e : TypeId) (i : TypeInfo) (ht : P.underlying t = some (.slice e)) (hi : P.info? e = some i) (hz : i.zero = some (.int .u8 0)) (hsize : i.size = 1) (hby : i.bytes = 1)
    (ad0 : Option Addr) (n cap : Nat) (xs : List Value) (hs : a.eval s = .slice ad0 n cap) (hown : w.ownsRow base e 1 (.slice ad0 n cap) n xs)
    (ad : Addr) (m c : Nat) (news : List Value) (hx : a.eval x = .slice (some ad) m c) (hl : news.length = m) (hnews : ∀ j u, news[j]? = some u → w.cell? (ad.add j) = some u) (h1 : ∀ u ∈ news, u.oneCell' = true)
    (h63 : n + m ≤ maxLen) (hbytes : n + m ≤ 140737488355328) (hbase : base ≤ w.heap.size)
    (h : ∀ a' cap' w', w'.ownsRow base e 1 (.slice a' (n + m) cap') (n + m) (xs ++ news) → Gr w w' ad0 a' → wpList P ops Q rest (a.put o.dst (.slice a' (n + m) cap')) w') :
    wpList P ops Q (o :: rest) a w := by
  refine wpList_plain hgd fun K hK => ?_
  obtain ⟨v', w', hr, h2, h3, h4, h5⟩ := run_append_own_at (P := P) w base t o.type e i (.int .u8 0) 1 1 ht hi hz hsize hby rfl (by decide) _ n xs hown ad m c news (by simpa using hl) hnews h1 h63 (by omega) hbase
  obtain ⟨a', cap', rfl⟩ := row_form h2
  unfold Oper.wp execOp
  simp only [ho, resolve, invoke, builtin, Sem.run_bind, Sem.run_pure, Result.andThen_ok, List.map_toArray, List.map_cons, List.map_nil, hs, hx, hr]
  exact hK _ _ (h a' cap' w' h2 ⟨by rw [← ownBlock_slice ad0 n cap]; exact h3, loc_of w h5⟩)
end

theorem one_byte (x : Int) : ∀ u ∈ [Value.int .u8 x], u.oneCell' = true := by
  intro u hu
  simp at hu
  subst hu
  rfl

end Go.Proofs.Qxb6001227aDoor
