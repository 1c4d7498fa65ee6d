/-
  THE STEPS OF appendDecimal: what has been written so far (AS), and the laws of append on it, in the walk and in a region that draws.
-/
import Derived.Test.Qxb6001227aDoorDigit
import Derived.BigRegion
import Derived.Deep.RegionLaw
namespace Go.Proofs.Qxb6001227aDoor
open Go.RowKit

/-- T is written behind pre. -/
structure AS (B : Nat) (w : World) (a : Option Addr) (pre : List Value) (n : Nat) (T : List UInt8) (W : World) (b : Option Addr) (m cap : Nat) : Prop where
  own : W.ownsRow B 5 1 (.slice b m cap) m (pre ++ Lib.byteCells T)
  len : m = n + T.length
  gr : Gr w W a b
  sz : B ≤ w.heap.size

theorem AS.drewN {B : Nat} {w : World} {a : Option Addr} {pre : List Value} {n : Nat} {T : List UInt8} {W : World} {b : Option Addr} {m cap : Nat} (h : AS B w a pre n T W b m cap) (q : Nat) : AS B w a pre n T (W.drewN q) b m cap :=
  ⟨h.own, h.len, ⟨⟨h.gr.g.os, h.gr.g.tape, h.gr.g.output, h.gr.g.size, h.gr.g.block⟩, h.gr.loc⟩, h.sz⟩
theorem AS.drew {B : Nat} {w : World} {a : Option Addr} {pre : List Value} {n : Nat} {T : List UInt8} {W : World} {b : Option Addr} {m cap : Nat} (h : AS B w a pre n T W b m cap) : AS B w a pre n T W.drew b m cap :=
  ⟨h.own, h.len, ⟨⟨h.gr.g.os, h.gr.g.tape, h.gr.g.output, h.gr.g.size, h.gr.g.block⟩, h.gr.loc⟩, h.sz⟩
theorem AS.more {B : Nat} {w : World} {a : Option Addr} {pre : List Value} {n : Nat} {T U : List UInt8} {W W' : World} {b b' : Option Addr} {m cap k cap' : Nat} (h : AS B w a pre n T W b m cap)
    (hown : W'.ownsRow B 5 1 (.slice b' (m + k) cap') (m + k) (pre ++ Lib.byteCells T ++ Lib.byteCells U)) (hk : k = U.length) (hgr : Gr W W' b b') : AS B w a pre n (T ++ U) W' b' (m + k) cap' :=
  ⟨by rw [Lib.byteCells_append, ← List.append_assoc]; exact hown, by rw [h.len, hk, List.length_append]; omega, h.gr.trans hgr, h.sz⟩

section
variable {ops : Array Oper} {rest : List Oper} {o : Oper} {act : Act} {Q : Exit → Act → World → Prop} {B : Nat} {w : World} {a : Option Addr} {pre : List Value} {n : Nat} {T : List UInt8} {W : World} {b : Option Addr} {m cap : Nat}

/-- Some bytes written out: 'append(b, c)', 'append(b, c, d)'. -/
theorem run_lit (hS : AS B w a pre n T W b m cap) (cs : Array Value) (U : List UInt8) (hU : cs.toList = Lib.byteCells U) (k : Nat) (hk : k = U.length) (hlim : n + T.length + k ≤ 140737488355328) (ty : TypeId) :
    ∃ b' cap' W', (Builtin.append_ #[22, 22] ty #[.slice b m cap, .slice (some ⟨W.heap.size, 0, none⟩) k k]).run Tryd.prog (W.alloc (.cells cs 5)) = .ok (.slice b' (m + k) cap') W' ∧ AS B w a pre n (T ++ U) W' b' (m + k) cap' := by
  obtain ⟨i0, hi, hz0, hz1, hz2⟩ := info_parts info5
  have hl := hS.len
  have hsz := hS.gr.g.size
  have hB := hS.sz
  obtain ⟨v', w', hr, h2, h3, h4, h5⟩ := run_append_own_at (P := Tryd.prog) (W.alloc (.cells cs 5)) B 22 ty 5 i0 (.int .u8 0) 1 1 Tryd.underlying22 hi hz0 hz1 hz2 rfl (by decide) _ m _ (hS.own.alloc _) ⟨W.heap.size, 0, none⟩ k k (Lib.byteCells U) (by rw [Lib.byteCells_length, hk]; simp)
    (fun j u hu => by rw [Addr.add_lit, Nat.zero_add, cell_of_row (W.alloc (.cells cs 5)) W.heap.size j cs 5 (0, 0) (heap_alloc_new W _), ← hU] at *; simpa using hu) (bytes_one U) (by unfold maxLen; omega) (by omega) (by simp; omega)
  obtain ⟨b', cap', rfl⟩ := row_form h2
  exact ⟨b', cap', w', hr, hS.more h2 hk ((Gr.alloc W b (.cells cs 5)).trans ⟨by rw [← ownBlock_slice b m cap]; exact h3, loc_of _ h5⟩)⟩

theorem wp_lit (hgd : o.guard = none) (s x : Operand) (ho : o.op = .call { callee := .builtin .append, args := #[s, x], argTypes := #[22, 22] }) (hS : AS B w a pre n T W b m cap) (cs : Array Value) (U : List UInt8) (hU : cs.toList = Lib.byteCells U) (k : Nat) (hk : k = U.length)
    (hs : act.eval s = .slice b m cap) (g0 : Nat) (hx : act.eval x = .slice (some ⟨g0, 0, none⟩) k k) (hg0 : g0 = W.heap.size) (hlim : n + T.length + k ≤ 140737488355328)
    (h : ∀ b' m' cap' W', AS B w a pre n (T ++ U) W' b' m' cap' → wpList Tryd.prog ops Q rest (act.put o.dst (.slice b' m' cap')) W') : wpList Tryd.prog ops Q (o :: rest) act (W.alloc (.cells cs 5)) := by
  subst hg0
  refine wpList_plain hgd fun K hK => ?_
  obtain ⟨b', cap', W', hr, hA⟩ := run_lit hS cs U hU k hk hlim o.type
  unfold Oper.wp execOp
  simp only [ho, resolve, invoke, builtin, Sem.run_bind, Sem.run_pure, Result.andThen_ok, List.map_toArray, List.map_cons, List.map_nil, hs, hx, hr]
  exact hK _ _ (h b' _ cap' W' hA)

theorem step_lit {K : Act → World → Prop} {E : Prop} (hgd : o.guard = none) (s x : Operand) (ho : o.op = .call { callee := .builtin .append, args := #[s, x], argTypes := #[22, 22] }) (hS : AS B w a pre n T W b m cap) (cs : Array Value) (U : List UInt8) (hU : cs.toList = Lib.byteCells U) (k : Nat) (hk : k = U.length)
    (hs : act.eval s = .slice b m cap) (g0 : Nat) (hx : act.eval x = .slice (some ⟨g0, 0, none⟩) k k) (hg0 : g0 = W.heap.size) (hlim : n + T.length + k ≤ 140737488355328)
    (h : ∀ b' m' cap' W', AS B w a pre n (T ++ U) W' b' m' cap' → K (act.put o.dst (.slice b' m' cap')) W') : if Region.wanted o (yielded ops act.tmps) = true then Oper.wp Tryd.prog o act (W.alloc (.cells cs 5)) K Q else E := by
  have hw : Region.wanted o (yielded ops act.tmps) = true := by simp [Region.wanted, hgd]
  rw [if_pos hw]
  subst hg0
  obtain ⟨b', cap', W', hr, hA⟩ := run_lit hS cs U hU k hk hlim o.type
  unfold Oper.wp execOp
  simp only [ho, resolve, invoke, builtin, Sem.run_bind, Sem.run_pure, Result.andThen_ok, List.map_toArray, List.map_cons, List.map_nil, hs, hx, hr]
  exact h b' _ cap' W' hA

/-- A string. -/
theorem run_str (hS : AS B w a pre n T W b m cap) (t : ByteArray) (U : List UInt8) (hU : t.data.toList = U) (hlim : n + T.length + U.length ≤ 140737488355328) (ty : TypeId) :
    ∃ b' cap' W', (Builtin.append_ #[22, 9] ty #[.slice b m cap, .string t]).run Tryd.prog W = .ok (.slice b' (m + t.size) cap') W' ∧ AS B w a pre n (T ++ U) W' b' (m + t.size) cap' := by
  obtain ⟨i0, hi, hz0, hz1, hz2⟩ := info_parts info5
  have hl := hS.len
  have hsz := hS.gr.g.size
  have hB := hS.sz
  have hts := str_size hU
  obtain ⟨v', w', hr, h2, h3, h4⟩ := Lib.run_append_own_string (P := Tryd.prog) W B 22 9 ty 5 i0 Tryd.underlying22 Tryd.underlying9 hi hz0 hz1 hz2 _ m _ hS.own t (by unfold maxLen; omega) (by omega) (by omega)
  have h5 := append_str_loc W B 22 9 ty 5 i0 Tryd.underlying22 Tryd.underlying9 hi hz0 hz1 hz2 _ m _ hS.own t (by unfold maxLen; omega) (by omega) hr h4
  obtain ⟨b', cap', rfl⟩ := row_form h2
  refine ⟨b', cap', w', hr, hS.more (U := U) ?_ hts ⟨by rw [← ownBlock_slice b m cap]; exact h3, loc_of W h5⟩⟩
  rw [Lib.strCells_eq, hU] at h2
  exact h2

theorem wp_str (hgd : o.guard = none) (s x : Operand) (ho : o.op = .call { callee := .builtin .append, args := #[s, x], argTypes := #[22, 9] }) (hS : AS B w a pre n T W b m cap) (t : ByteArray) (U : List UInt8) (hU : t.data.toList = U)
    (hs : act.eval s = .slice b m cap) (hx : act.eval x = .string t) (hlim : n + T.length + U.length ≤ 140737488355328)
    (h : ∀ b' m' cap' W', AS B w a pre n (T ++ U) W' b' m' cap' → wpList Tryd.prog ops Q rest (act.put o.dst (.slice b' m' cap')) W') : wpList Tryd.prog ops Q (o :: rest) act W := by
  refine wpList_plain hgd fun K hK => ?_
  obtain ⟨b', cap', W', hr, hA⟩ := run_str hS t U hU hlim o.type
  unfold Oper.wp execOp
  simp only [ho, resolve, invoke, builtin, Sem.run_bind, Sem.run_pure, Result.andThen_ok, List.map_toArray, List.map_cons, List.map_nil, hs, hx, hr]
  exact hK _ _ (h b' _ cap' W' hA)

theorem step_str {K : Act → World → Prop} {E : Prop} (hgd : o.guard = none) (s x : Operand) (ho : o.op = .call { callee := .builtin .append, args := #[s, x], argTypes := #[22, 9] }) (hS : AS B w a pre n T W b m cap) (t : ByteArray) (U : List UInt8) (hU : t.data.toList = U)
    (hs : act.eval s = .slice b m cap) (hx : act.eval x = .string t) (hlim : n + T.length + U.length ≤ 140737488355328)
    (h : ∀ b' m' cap' W', AS B w a pre n (T ++ U) W' b' m' cap' → K (act.put o.dst (.slice b' m' cap')) W') : if Region.wanted o (yielded ops act.tmps) = true then Oper.wp Tryd.prog o act W K Q else E := by
  have hw : Region.wanted o (yielded ops act.tmps) = true := by simp [Region.wanted, hgd]
  rw [if_pos hw]
  obtain ⟨b', cap', W', hr, hA⟩ := run_str hS t U hU hlim o.type
  unfold Oper.wp execOp
  simp only [ho, resolve, invoke, builtin, Sem.run_bind, Sem.run_pure, Result.andThen_ok, List.map_toArray, List.map_cons, List.map_nil, hs, hx, hr]
  exact h b' _ cap' W' hA
/-- A string, while a literal has just been laid. -/
theorem run_str2 (hS : AS B w a pre n T W b m cap) (cs : Array Value) (t : ByteArray) (U : List UInt8) (hU : t.data.toList = U) (hlim : n + T.length + U.length ≤ 140737488355328) (ty : TypeId) :
    ∃ b' cap' W', (Builtin.append_ #[22, 9] ty #[.slice b m cap, .string t]).run Tryd.prog (W.alloc (.cells cs 5)) = .ok (.slice b' (m + t.size) cap') W' ∧ AS B w a pre n (T ++ U) W' b' (m + t.size) cap' ∧ W'.heap[W.heap.size]? = some (.cells cs 5) := by
  obtain ⟨i0, hi, hz0, hz1, hz2⟩ := info_parts info5
  have hl := hS.len
  have hsz := hS.gr.g.size
  have hB := hS.sz
  have hts := str_size hU
  have hS2 : AS B w a pre n T (W.alloc (.cells cs 5)) b m cap := ⟨hS.own.alloc _, hS.len, hS.gr.trans (Gr.alloc W b _), hS.sz⟩
  obtain ⟨v', w', hr, h2, h3, h4⟩ := Lib.run_append_own_string (P := Tryd.prog) (W.alloc (.cells cs 5)) B 22 9 ty 5 i0 Tryd.underlying22 Tryd.underlying9 hi hz0 hz1 hz2 _ m _ hS2.own t (by unfold maxLen; omega) (by omega) (by simp; omega)
  have h5 := append_str_loc (W.alloc (.cells cs 5)) B 22 9 ty 5 i0 Tryd.underlying22 Tryd.underlying9 hi hz0 hz1 hz2 _ m _ hS2.own t (by unfold maxLen; omega) (by omega) hr h4
  obtain ⟨b', cap', rfl⟩ := row_form h2
  refine ⟨b', cap', w', hr, hS2.more (U := U) ?_ hts ⟨by rw [← ownBlock_slice b m cap]; exact h3, loc_of _ h5⟩, ?_⟩
  · rw [Lib.strCells_eq, hU] at h2
    exact h2
  · rw [h3.block W.heap.size (by simp) (fun e => by have := (hS.own.lt W.heap.size e.symm).2; omega)]
    exact heap_alloc_new W _

theorem step_str2 {K : Act → World → Prop} {E : Prop} (hgd : o.guard = none) (s x : Operand) (ho : o.op = .call { callee := .builtin .append, args := #[s, x], argTypes := #[22, 9] }) (hS : AS B w a pre n T W b m cap) (cs : Array Value) (t : ByteArray) (U : List UInt8) (hU : t.data.toList = U)
    (hs : act.eval s = .slice b m cap) (hx : act.eval x = .string t) (hlim : n + T.length + U.length ≤ 140737488355328)
    (h : ∀ b' m' cap' W', AS B w a pre n (T ++ U) W' b' m' cap' → W'.heap[W.heap.size]? = some (.cells cs 5) → K (act.put o.dst (.slice b' m' cap')) W') : if Region.wanted o (yielded ops act.tmps) = true then Oper.wp Tryd.prog o act (W.alloc (.cells cs 5)) K Q else E := by
  have hw : Region.wanted o (yielded ops act.tmps) = true := by simp [Region.wanted, hgd]
  rw [if_pos hw]
  obtain ⟨b', cap', W', hr, hA, hl⟩ := run_str2 hS cs t U hU hlim o.type
  unfold Oper.wp execOp
  simp only [ho, resolve, invoke, builtin, Sem.run_bind, Sem.run_pure, Result.andThen_ok, List.map_toArray, List.map_cons, List.map_nil, hs, hx, hr]
  exact h b' _ cap' W' hA hl

/-- A literal that was laid before. -/
theorem step_lit2 {K : Act → World → Prop} {E : Prop} (hgd : o.guard = none) (s x : Operand) (ho : o.op = .call { callee := .builtin .append, args := #[s, x], argTypes := #[22, 22] }) (hS : AS B w a pre n T W b m cap) (cs : Array Value) (U : List UInt8) (hU : cs.toList = Lib.byteCells U) (k : Nat) (hk : k = U.length)
    (hs : act.eval s = .slice b m cap) (g0 g1 : Nat) (hx : act.eval x = .slice (some ⟨g0, 0, none⟩) k k) (hlit : W.heap[g1]? = some (.cells cs 5)) (hg0 : g0 = g1) (hlim : n + T.length + k ≤ 140737488355328)
    (h : ∀ b' m' cap' W', AS B w a pre n (T ++ U) W' b' m' cap' → K (act.put o.dst (.slice b' m' cap')) W') : if Region.wanted o (yielded ops act.tmps) = true then Oper.wp Tryd.prog o act W K Q else E := by
  have hw : Region.wanted o (yielded ops act.tmps) = true := by simp [Region.wanted, hgd]
  rw [if_pos hw]
  subst hg0
  obtain ⟨i0, hi, hz0, hz1, hz2⟩ := info_parts info5
  have hl := hS.len
  have hsz := hS.gr.g.size
  have hB := hS.sz
  obtain ⟨v', w', hr, h2, h3, h4, h5⟩ := run_append_own_at (P := Tryd.prog) W B 22 o.type 5 i0 (.int .u8 0) 1 1 Tryd.underlying22 hi hz0 hz1 hz2 rfl (by decide) _ m _ hS.own ⟨g0, 0, none⟩ k k (Lib.byteCells U) (by rw [Lib.byteCells_length, hk]; simp)
    (fun j u hu => by rw [Addr.add_lit, Nat.zero_add, cell_of_row W g0 j cs 5 (0, 0) hlit, ← hU] at *; simpa using hu) (bytes_one U) (by unfold maxLen; omega) (by omega) (by omega)
  obtain ⟨b', cap', rfl⟩ := row_form h2
  unfold Oper.wp execOp
  simp only [ho, resolve, invoke, builtin, Sem.run_bind, Sem.run_pure, Result.andThen_ok, List.map_toArray, List.map_cons, List.map_nil, hs, hx, hr]
  exact h b' _ cap' w' (hS.more h2 hk ⟨by rw [← ownBlock_slice b m cap]; exact h3, loc_of _ h5⟩)
end

set_option maxHeartbeats 400000 in
theorem zd_any (neg : Bool) (s : ByteArray) (x : Int) (w : World) :
    Calls Tryd.prog 14 #[.bool neg, .string s, .int .i64 x] w fun e w' => e = .returned (.agg #[.bool neg, .string s, .int .i64 x]) ∧ Below w.heap.size w w' := by
  go_enter Tryd.func14, Tryd.ntmps14
  go_wp2_with fail
  (try simp only [Exit.inBlock, Exit.then])
  refine bodyPost_ret (by simp [results, Tryd.results14, go_sem]; try rfl) rfl ?_
  exact ⟨rfl, (Below.refl _ _).alloc (Nat.le_refl _) _⟩

end Go.Proofs.Qxb6001227aDoor
