import Derived.Test.Qxb6602705aT8
import Derived.Lib.AppendZeros
import Derived.Lib.AppendZerosOnto
namespace Go.Proofs.Qxb6602705a
open Go.RowKit
set_option linter.unusedVariables false

/-- A copy whose run is known, as a step of the walk. -/
theorem at_copy {P : Program} {w : World} {ops : Array Oper} {rest : List Oper} {o : Oper} {a : Act} {Q : Exit → Act → World → Prop} (hgd : o.guard = none) (d s : Operand) (t u : TypeId)
    (ho : o.op = .call { callee := .builtin .copy, args := #[d, s], argTypes := #[t, u] }) (vd vs : Value) (hd : a.eval d = vd) (hs : a.eval s = vs) {v' : Value} {w' : World}
    (hr : (Builtin.copy_ #[t, u] o.type #[vd, vs]).run P w = .ok v' w') (h : wpList P ops Q rest (a.put o.dst v') w') : wpList P ops Q (o :: rest) a w := by
  refine wpList_plain hgd fun K hK => ?_
  unfold Oper.wp
  simp [execOp, ho, resolve, invoke, builtin, hd, hs, hr, Result.andThen]
  exact hK _ _ h
/-- The same inside a region that draws its order. -/
theorem in_copy {P : Program} {w : World} {ops : Array Oper} {o : Oper} {a : Act} {K : Act → World → Prop} {Q : Exit → Act → World → Prop} {E : Prop} (hgd : o.guard = none) (d s : Operand) (t u : TypeId)
    (ho : o.op = .call { callee := .builtin .copy, args := #[d, s], argTypes := #[t, u] }) (vd vs : Value) (hd : a.eval d = vd) (hs : a.eval s = vs) {v' : Value} {w' : World}
    (hr : (Builtin.copy_ #[t, u] o.type #[vd, vs]).run P w = .ok v' w') (h : K (a.put o.dst v') w') : if Region.wanted o (yielded ops a.tmps) = true then Oper.wp P o a w K Q else E := by
  have hw : Region.wanted o (yielded ops a.tmps) = true := by simp [Region.wanted, hgd]
  rw [if_pos hw]
  unfold Oper.wp
  simp [execOp, ho, resolve, invoke, builtin, hd, hs, hr, Result.andThen]
  exact h

/-- copy of pairs into a row that is known whole. -/
theorem run_copy2 (w : World) (sT ty N o n dCap : Nat) (a : Addr) (sLen sCap dLen : Nat) (row : Array Value) (cs : List Value) (hmin : Nat.min sLen dLen = n) (hl : cs.length = n * 2) (hh : w.heap[N]? = some (.cells row 52 (0, 0))) (hfit : o + n * 2 ≤ row.size)
    (hsrc : ∀ j v, cs[j]? = some v → w.cell? (a.add j) = some v) (h1 : ∀ v ∈ cs, v.oneCell' = true) :
    (Builtin.copy_ #[43, sT] ty #[.slice (some ⟨N, o, none⟩) dLen dCap, .slice (some a) sLen sCap]).run Try.prog w = .ok (goInt n) (w.setCells N o cs) := by
  obtain ⟨i0, hi0, hz0, hz1, hz2⟩ := info_parts Try.info52
  have hld := run_loadCells_list (P := Try.prog) w a cs hsrc
  have hst := run_storeCells_cells (P := Try.prog) N o cs 0 w (fun j hj => by
      have : o + 0 + j < row.size := by omega
      simp only [World.cell?, hh, Option.isSome_none, Bool.false_eq_true, if_false]
      rw [Array.getElem?_eq_getElem this]; rfl) (fun j hj => by simp [World.frozen?, hh]) h1
  simp only [Nat.add_zero] at hst
  rw [hl] at hld
  simp [Builtin.copy_, run_underlying Try.underlying43, Builtin.lenOf, Builtin.firstCells, sizeOf, typeInfo, hi0, hz1, hmin, hld, hst]

/-- 'append(s[:i], make(S, n+1-i)...)': a new row. -/
theorem run_grow (w : World) (g n i : Nat) (cs : Array Value) (hh : w.heap[g]? = some (.cells cs 52 (0, 0))) (hs : cs.size = n * 2) (hi : i < n) (hl : n ≤ 1048576) :
    ∃ (G : Nat) (W : World) (row : Array Value), (∀ ty, (Builtin.append_ #[43, 3] ty #[.slice (some ⟨g, 0, none⟩) i n, .int .i64 ((n : Int) + 1 - (i : Int))]).run Try.prog w = .ok (.slice (some ⟨w.heap.size, 0, none⟩) (n + 1) G) W) ∧
      n + 1 ≤ G ∧ G ≤ 9223372036854775807 ∧ W.heap[w.heap.size]? = some (.cells row 52 (0, 0)) ∧ row.size = G * 2 ∧ (∀ j, j < i * 2 → row[j]? = cs[j]?) ∧ Below w.heap.size w W := by
  obtain ⟨i0, hi0, hz0, hz1, hz2⟩ := info_parts Try.info52
  have hk : i + (n + 1 - i) = n + 1 := by omega
  have hge := grownCap_ge w (n + 1) n 52
  have hle := grownCap_le_maxLen w (n + 1) n 52 (by unfold maxLen; omega)
  unfold maxLen at hle
  have hold : (Builtin.firstCells i0.size i (.slice (some ⟨g, 0, none⟩) i n)).run Try.prog w.drew = .ok (cs.toList.take (i * 2)).toArray w.drew := by
    rw [hz1]
    refine run_firstCells_some w.drew 2 i ⟨g, 0, none⟩ i n _ (by simp [hs]; omega) (fun j v hj => ?_)
    rw [Addr.add_lit]
    show w.cell? _ = _
    simp only [World.cell?, hh, Option.isSome_none, Bool.false_eq_true, if_false, Nat.zero_add]
    rw [List.getElem?_take] at hj
    split at hj
    · simpa using hj
    · cases hj
  refine ⟨grownCap w (n + 1) n 52, w.drew.alloc (.cells ((cs.toList.take (i * 2)).toArray ++ Builtin.zeroCells (Value.agg #[.int .i64 0, .int .u64 0]).cells (n + 1 - i) ++ Builtin.zeroCells (Value.agg #[.int .i64 0, .int .u64 0]).cells (grownCap w (n + 1) n 52 - (n + 1))) 52), _, fun ty => ?_, hge, hle, heap_alloc_new w.drew _, ?_, fun j hj => ?_, ?_⟩
  · have h := Lib.run_append_grow_zeros w 43 3 ty 52 i0 _ .i64 .i64 Try.underlying43 Try.underlying3 hi0 hz0 (some ⟨g, 0, none⟩) i n _ hold (n + 1 - i) (by omega) (by rw [hz1]; omega) (by omega) (by omega) (by rw [hz2]; omega) (by rw [hz2, hk]; exact growslice_fits (by omega) (by omega))
    rw [hk] at h
    rw [show (n : Int) + 1 - (i : Int) = ((n + 1 - i : Nat) : Int) by omega]
    exact h
  · have hz : (Value.agg #[.int .i64 0, .int .u64 0]).cells.size = 2 := rfl
    simp only [Array.size_append, size_zeroCells, hz, List.size_toArray, List.length_take, Array.length_toList, hs]
    omega
  · rw [Array.append_assoc, Array.getElem?_append_left (by simp [hs]; omega)]
    simp [hj]
  · exact (Below.refl _ _).drew.alloc (Nat.le_refl _) _

/-- 'append(s, v...)', one pair behind the whole row: a new row. -/
theorem run_push (w : World) (g n gv : Nat) (cs : Array Value) (x y : Value) (hh : w.heap[g]? = some (.cells cs 52 (0, 0))) (hs : cs.size = n * 2) (hl : n ≤ 1048576)
    (c0 : w.cell? ⟨gv, 0, none⟩ = some x) (c1 : w.cell? ⟨gv, 1, none⟩ = some y) :
    ∃ (G : Nat) (W : World) (row : Array Value), (∀ ty, (Builtin.append_ #[43, 42] ty #[.slice (some ⟨g, 0, none⟩) n n, .slice (some ⟨gv, 0, none⟩) 1 1]).run Try.prog w = .ok (.slice (some ⟨w.heap.size, 0, none⟩) (n + 1) G) W) ∧
      n + 1 ≤ G ∧ W.heap[w.heap.size]? = some (.cells row 52 (0, 0)) ∧ row.size = G * 2 ∧ (∀ j, j < n * 2 → row[j]? = cs[j]?) ∧ row[n * 2]? = some x ∧ row[n * 2 + 1]? = some y ∧ Below w.heap.size w W := by
  obtain ⟨i0, hi0, hz0, hz1, hz2⟩ := info_parts Try.info52
  have hge := grownCap_ge w (n + 1) n 52
  have hn : ¬ (n + 1 ≤ n) := by omega
  have h63' : ¬ (9223372036854775807 < ((n : Int) + 1)) := by omega
  have hfit : Builtin.nextslicecap (n + 1) n * 16 ≤ 281474976710656 := growslice_fits (by omega) (by omega)
  have h48' : ¬ (281474976710656 < Builtin.nextslicecap (n + 1) n * 16) := by omega
  have hf := run_firstCells_some (P := Try.prog) w.drew 2 1 ⟨gv, 0, none⟩ 1 1 [x, y] rfl (fun j v hj => by
    rw [Addr.add_lit]
    show w.cell? _ = _
    match j, hj with
    | 0, hj => simp at hj; subst hj; simpa using c0
    | 1, hj => simp at hj; subst hj; simpa using c1)
  have hfo := run_firstCells_some (P := Try.prog) w.drew 2 n ⟨g, 0, none⟩ n n cs.toList (by simp [hs]) (fun j v hj => by
    rw [Addr.add_lit]
    show w.cell? _ = _
    simp only [World.cell?, hh, Option.isSome_none, Bool.false_eq_true, if_false, Nat.zero_add]
    simpa using hj)
  refine ⟨grownCap w (n + 1) n 52, w.drew.alloc (.cells (cs ++ #[x, y] ++ Builtin.zeroCells (Value.agg #[.int .i64 0, .int .u64 0]).cells (grownCap w (n + 1) n 52 - (n + 1))) 52), _, fun ty => ?_, hge, heap_alloc_new w.drew _, ?_, fun j hj => ?_, ?_, ?_, ?_⟩
  · simp [Builtin.append_, run_underlying Try.underlying43, run_underlying Try.underlying42, sizeOf, typeInfo, zeroValue, hi0, hz0, hz1, hz2, Builtin.lenOf, hn, h63', h48', Question.forced, hf, hfo, newRow, grownCap]
  · have hz : (Value.agg #[.int .i64 0, .int .u64 0]).cells.size = 2 := rfl
    simp only [Array.size_append, size_zeroCells, hz, hs]
    simp
    omega
  · rw [Array.append_assoc, Array.getElem?_append_left (by omega)]
  · rw [Array.getElem?_append_left (by simp; omega), Array.getElem?_append_right (by omega)]
    simp [hs]
  · rw [Array.getElem?_append_left (by simp; omega), Array.getElem?_append_right (by omega)]
    simp [hs]
  · exact (Below.refl _ _).drew.alloc (Nat.le_refl _) _
end Go.Proofs.Qxb6602705a
