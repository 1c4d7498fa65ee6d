/-
  append ONTO A SLICE THAT THE CALL OWNS, with two words more than the base's law: where the new slice lies, and that EVERY row that the call owns and that is no longer than the slice appended to still holds its elements (a slice over the same array's head among them).
  No Go in sight of the project's: laws of append alone.
-/
import Derived.WalkKit
import Derived.Maps.OwnSet
import Derived.Maps.AppendAt
namespace Go.Proofs.Qxb6000977a

section
variable {P : Program} (w : World)

/-- A row of the call's own, no longer than 'n' elements, behind a change of the row g from the n-th element on. -/
theorem ownsRow_tail {w' : World} {base e size g n : Nat} {cur cur' : Array Value} (hg : w.heap[g]? = some (.cells cur e (0, 0))) (hg' : w'.heap[g]? = some (.cells cur' e (0, 0)))
    (hs : cur'.size = cur.size) (ht : cur'.toList.take (n * size) = cur.toList.take (n * size)) (ho : ∀ k, k < w.heap.size → k ≠ g → w'.heap[k]? = w.heap[k]?)
    {m : Value} {k : Nat} {ys : List Value} (h : w.ownsRow base e size m k ys) (hk : k ≤ n) : w'.ownsRow base e size m k ys := by
  refine ⟨h.1, ?_⟩
  rcases h.2 with hn | ⟨g1, cap, cur1, hv, hb, hgg, h1, h2, h3, h4⟩
  · exact .inl hn
  · by_cases e1 : g1 = g
    · subst e1
      rw [hg] at hgg
      cases hgg
      refine .inr ⟨g1, cap, cur', hv, hb, hg', h1, h2, by rw [hs]; exact h3, ?_⟩
      have hle : k * size ≤ n * size := Nat.mul_le_mul_right _ hk
      have e2 : cur'.toList.take (k * size) = cur.toList.take (k * size) := by
        have := congrArg (List.take (k * size)) ht
        rwa [List.take_take, List.take_take, Nat.min_eq_left hle] at this
      rw [e2]; exact h4
    · exact .inr ⟨g1, cap, cur1, hv, hb, by rw [ho g1 (Array.getElem?_eq_some_iff.1 hgg).1 e1]; exact hgg, h1, h2, h3, h4⟩

theorem run_append_keep (base : Nat) (t ty e : TypeId) (i : TypeInfo) (z : Value) (size bytes : Nat) (ht : P.underlying t = some (.slice e)) (hi : P.info? e = some i) (hz : i.zero = some z)
    (hsize : i.size = size) (hby : i.bytes = bytes) (hzs : z.cells.size = size) (hsz : 0 < size)
    (v : Value) (n : Nat) (xs : List Value) (hown : w.ownsRow base e size v n xs)
    (a : Addr) (m c : Nat) (news : List Value) (hl : news.length = m * size) (hnews : ∀ j u, news[j]? = some u → w.cell? (a.add j) = some u) (h1 : ∀ u ∈ news, u.oneCell' = true)
    (h63 : n + m ≤ maxLen) (hbytes : (n + m) * bytes ≤ 140737488355328) (hbase : base ≤ w.heap.size) (hm0 : m ≠ 0) :
    ∃ v' w', (Builtin.append_ #[t, t] ty #[v, .slice (some a) m c]).run P w = .ok v' w' ∧ w'.ownsRow base e size v' (n + m) (xs ++ news) ∧ w.grownBy w' v.ownBlock ∧
      (v'.ownBlock = v.ownBlock ∨ v'.ownBlock = some w.heap.size) ∧ (∀ u k ys, w.ownsRow base e size u k ys → k ≤ n → w'.ownsRow base e size u k ys) := by
  subst hsize
  subst hby
  have hsmall : n + m ≤ 9223372036854775807 := by simp only [maxLen] at h63; omega
  have hlen : (xs ++ news).length = (n + m) * i.size := by rw [List.length_append, hown.1, hl, Nat.add_mul]
  have grown : ∀ (old : Nat), old < n + m → ∀ (row : Option Nat),
      (w.drew.alloc (.cells (xs.toArray ++ news.toArray ++ Builtin.zeroCells z.cells (grownCap w (n + m) old e - (n + m))) e)).ownsRow base e i.size
        (.slice (some ⟨w.heap.size, 0, none⟩) (n + m) (grownCap w (n + m) old e)) (n + m) (xs ++ news) ∧
      w.grownBy (w.drew.alloc (.cells (xs.toArray ++ news.toArray ++ Builtin.zeroCells z.cells (grownCap w (n + m) old e - (n + m))) e)) row ∧
      (∀ u k ys, w.ownsRow base e i.size u k ys → k ≤ n → (w.drew.alloc (.cells (xs.toArray ++ news.toArray ++ Builtin.zeroCells z.cells (grownCap w (n + m) old e - (n + m))) e)).ownsRow base e i.size u k ys) := by
    intro old ho row
    have hge := grownCap_ge w (n + m) old e
    have hcm : grownCap w (n + m) old e ≤ maxLen := grownCap_le_maxLen w (n + m) old e h63
    refine ⟨⟨hlen, .inr ⟨w.heap.size, _, _, rfl, hbase, Go.heap_alloc_new w.drew _, hge, hcm, ?_, ?_⟩⟩, ⟨rfl, rfl, rfl, by simp, fun k hk _ => RowKit.Below.heap_alloc w.drew _ k hk⟩, ?_⟩
    · simp only [Array.size_append, List.size_toArray, size_zeroCells, hzs, hown.1, hl, ← Nat.add_mul]
      congr 1
      omega
    · simp only [Array.toList_append, List.append_assoc]
      rw [← List.append_assoc, ← hlen]
      exact List.take_left
    · intro u k ys hu _
      exact World.ownsRow.kept (row := none) hu ⟨rfl, rfl, rfl, by simp, fun k hk _ => RowKit.Below.heap_alloc w.drew _ k hk⟩ (by cases u.ownBlock <;> simp)
  rcases hown.2 with ⟨rfl, rfl⟩ | ⟨g, cap, cur, rfl, hbg, hg, hnc, hcm, hcs, htake⟩
  · have hx : xs = [] := List.eq_nil_of_length_eq_zero (by simpa using hown.1)
    subst hx
    have hr := run_append_nil (P := P) w t ty e i z ht hi hz a m c news hl hnews (by omega) (by omega) (by have hb := hbytes; simp only [Nat.zero_add] at hb; omega)
    have hgr := grown 0 (by omega) (Value.ownBlock (.slice none 0 0))
    simp only [Nat.zero_add, List.nil_append, Array.empty_append] at hgr ⊢
    exact ⟨_, _, hr, hgr.1, hgr.2.1, Or.inr rfl, hgr.2.2⟩
  · by_cases hroom : n + m ≤ cap
    · have hfit : n * i.size + news.length ≤ cur.size := by rw [hl, hcs, ← Nat.add_mul]; exact Nat.mul_le_mul_right _ hroom
      have hr := run_append_room (P := P) w t ty e i ht hi g n cap cur hg a m c news hl hnews h1 hroom hfit
      have hsz' : (cur.toList.take (n * i.size) ++ news ++ cur.toList.drop (n * i.size + news.length)).toArray.size = cur.size := by
        simp only [List.size_toArray, List.length_append, List.length_take, List.length_drop, Array.length_toList]
        omega
      refine ⟨_, _, hr, ⟨hlen, .inr ⟨g, cap, _, rfl, hbg, setRow_heap w g cur _ e _ hg, hroom, hcm, ?_, ?_⟩⟩, ⟨rfl, rfl, rfl, by simp, fun k _ hk => setRow_other w g k _ (fun e => hk (by simp [Value.ownBlock, e]))⟩, Or.inl rfl, ?_⟩
      · rw [hsz']; exact hcs
      · rw [htake, ← hlen]
        exact List.take_left
      · intro u k ys hu hk
        refine ownsRow_tail w (n := n) hg (setRow_heap w g cur _ e _ hg) hsz' ?_ (fun k _ hk => setRow_other w g k _ hk) hu hk
        simp only [List.append_assoc]
        rw [List.take_append_of_le_length (by simp only [List.length_take, Array.length_toList]; omega)]
        rw [List.take_take, Nat.min_self]
    · have holds : ∀ j u, xs[j]? = some u → w.cell? ((⟨g, 0, none⟩ : Addr).add j) = some u := hown.cells (g := g) rfl
      have hr := run_append_grow (P := P) w t ty e i z ht hi hz ⟨g, 0, none⟩ n cap xs hown.1 holds a m c news hl hnews (by omega) (by omega) (growslice_fits (by omega) hbytes)
      have hgr := grown cap (by omega) (Value.ownBlock (.slice (some ⟨g, 0, none⟩) n cap))
      exact ⟨_, _, hr, hgr.1, hgr.2.1, Or.inr rfl, hgr.2.2⟩

theorem row_form {w : World} {B e size : Nat} {v : Value} {n : Nat} {xs : List Value} (h : w.ownsRow B e size v n xs) : ∃ a cap, v = .slice a n cap := by
  rcases h.2 with ⟨rfl, rfl⟩ | ⟨g, c, cur, rfl, _⟩
  · exact ⟨_, _, rfl⟩
  · exact ⟨_, _, rfl⟩

theorem wpList_append_keep {ops : Array Oper} {rest : List Oper} {o : Oper} {a : Act} {Q : Exit → Act → World → Prop} (hgd : o.guard = none) (s x : Operand) (t : TypeId)
    (ho : o.op = .call { callee := .builtin .append, args := #[s, x], argTypes := #[t, t] })
    (base : Nat) (e : TypeId) (i : TypeInfo) (z : Value) (size bytes : Nat) (ht : P.underlying t = some (.slice e)) (hi : P.info? e = some i) (hz : i.zero = some z)
    (hsize : i.size = size) (hby : i.bytes = bytes) (hzs : z.cells.size = size) (hsz : 0 < size)
    (v : Value) (n : Nat) (xs : List Value) (hs : a.eval s = v) (hown : w.ownsRow base e size v n xs)
    (ad : Addr) (m c : Nat) (news : List Value) (hx : a.eval x = .slice (some ad) m c) (hl : news.length = m * size) (hnews : ∀ j u, news[j]? = some u → w.cell? (ad.add j) = some u) (h1 : ∀ u ∈ news, u.oneCell' = true)
    (h63 : n + m ≤ maxLen) (hbytes : (n + m) * bytes ≤ 140737488355328) (hbase : base ≤ w.heap.size) (hm0 : m ≠ 0)
    (h : ∀ a' cap' w', w'.ownsRow base e size (.slice a' (n + m) cap') (n + m) (xs ++ news) → w.grownBy w' v.ownBlock → ((Value.slice a' (n + m) cap').ownBlock = v.ownBlock ∨ (Value.slice a' (n + m) cap').ownBlock = some w.heap.size) →
      (∀ u k ys, w.ownsRow base e size u k ys → k ≤ n → w'.ownsRow base e size u k ys) → wpList P ops Q rest (a.put o.dst (.slice a' (n + m) cap')) w') :
    wpList P ops Q (o :: rest) a w := by
  refine wpList_plain hgd fun K hK => ?_
  obtain ⟨v', w', hr, h2, h3, h4, h5⟩ := run_append_keep (P := P) w base t o.type e i z size bytes ht hi hz hsize hby hzs hsz v n xs hown ad m c news hl hnews h1 h63 hbytes hbase hm0
  obtain ⟨a', cap', rfl⟩ := row_form h2
  unfold Oper.wp execOp
  simp only [ho, resolve, invoke, builtin, Sem.run_bind, Sem.run_pure, Result.andThen_ok, List.map_toArray, List.map_cons, List.map_nil, hs, hx, hr]
  exact hK _ _ (h a' cap' w' h2 h3 h4 h5)
end

end Go.Proofs.Qxb6000977a
