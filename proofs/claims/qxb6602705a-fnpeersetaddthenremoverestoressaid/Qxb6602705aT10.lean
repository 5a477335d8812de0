import Derived.Test.Qxb6602705aT9
namespace Go.Proofs.Qxb6602705a
open Go.RowKit
set_option linter.unusedVariables false

/-- What Insert leaves: a new row. -/
def InsSays (n i : Nat) (ps : List (Int × Int)) (q : Int × Int) (w : World) (e : Ending) (w' : World) : Prop :=
  ∃ g' G, e = .returned (.slice (some ⟨g', 0, none⟩) (n + 1) G) ∧ n + 1 ≤ G ∧ PRow w' g' G (n + 1) (ps.take i ++ q :: ps.drop i) ∧ Below w.heap.size w w'

theorem ins_end (g n gv : Nat) (ps : List (Int × Int)) (x y : Int) (w : World) (hl : n ≤ 1048576) (hn : ps.length = n) (h : PRow w g n n ps) (c0 : w.cell? ⟨gv, 0, none⟩ = some (.int .i64 x)) (c1 : w.cell? ⟨gv, 1, none⟩ = some (.int .u64 y)) :
    Calls Try.prog 40 #[.slice (some ⟨g, 0, none⟩) n n, .int .i64 n, .slice (some ⟨gv, 0, none⟩) 1 1] w fun e w' => InsSays n n ps (x, y) w e w' := by
  obtain ⟨cs, hh, hs, h3⟩ := h
  obtain ⟨G, W, row, hrun, hG, hW, hrs, hr1, hr2, hr3, hb⟩ := run_push w g n gv cs _ _ hh hs hl c0 c1
  have HF : Hid (PRow W w.heap.size G (n + 1) (ps.take n ++ (x, y) :: ps.drop n)) := by
    refine ⟨row, hW, hrs, fun i q hi hq => ?_⟩
    rw [List.take_of_length_le (by omega), List.drop_eq_nil_of_le (by omega)] at hq
    by_cases e : i < n
    · rw [List.getElem?_append_left (by omega)] at hq
      rw [hr1 _ (by omega), hr1 _ (by omega)]
      exact h3 i q e hq
    · obtain rfl : i = n := by omega
      rw [List.getElem?_append_right (by omega), hn] at hq
      simp at hq
      subst hq
      exact ⟨hr2, hr3⟩
  have HB : Hid (Below w.heap.size w W) := hb
  have HG : Hid (n + 1 ≤ G) := hG
  have HRUN : Hid _ := hrun
  clear hh hs h3 hW hrs hr1 hr2 hr3 hb hG c0 c1 hn hrun
  go_enter Try.func40, Try.ntmps40
  go_wp2_with (at_builtin; refine Lib.wpList_append_run _ rfl (.tmp 23) (.tmp 24) 43 42 rfl _ _ rfl rfl _ _ (HRUN.out _) ?_)
  go_ret
  exact ⟨_, G, rfl, HG.out, HF.out, HB.out⟩

theorem ins_mid (g n i gv : Nat) (ps : List (Int × Int)) (x y : Int) (w : World) (hl : n ≤ 1048576) (hn : ps.length = n) (hi : i < n) (h : PRow w g n n ps) (c0 : w.cell? ⟨gv, 0, none⟩ = some (.int .i64 x)) (c1 : w.cell? ⟨gv, 1, none⟩ = some (.int .u64 y)) :
    Calls Try.prog 40 #[.slice (some ⟨g, 0, none⟩) n n, .int .i64 i, .slice (some ⟨gv, 0, none⟩) 1 1] w fun e w' => InsSays n i ps (x, y) w e w' := by
  obtain ⟨cs, hh, hs, h3⟩ := h
  obtain ⟨G, W1, row, hrun, hG, hG63, hW, hrs, hr1, hb⟩ := run_grow w g n i cs hh hs hi hl
  have hgw : g < w.heap.size := (Array.getElem?_eq_some_iff.1 hh).1
  have hvw : gv < w.heap.size := World.block_lt_of_cell? w ⟨gv, 0, none⟩ c0
  -- the first copy: the pair goes in
  have run2 : ∀ ty, (Builtin.copy_ #[43, 42] ty #[.slice (some ⟨w.heap.size, i * 2, none⟩) (n + 1 - i) (G - i), .slice (some ⟨gv, 0, none⟩) 1 1]).run Try.prog W1 = .ok (goInt ((1 : Nat) : Int)) (W1.setCells w.heap.size (i * 2) [.int .i64 x, .int .u64 y]) := fun ty =>
    run_copy2 W1 42 ty w.heap.size (i * 2) 1 (G - i) ⟨gv, 0, none⟩ 1 1 (n + 1 - i) row _ (by simp only [Nat.min_def]; split <;> omega) rfl hW (by omega) (fun j v hj => by
      rw [Addr.add_lit, hb.cell (p := ⟨gv, 0 + j, none⟩) hvw]
      match j, hj with
      | 0, hj => simp at hj; subst hj; simpa using c0
      | 1, hj => simp at hj; subst hj; simpa using c1) (by intro v hv; simp at hv; rcases hv with rfl | rfl <;> rfl)
  obtain ⟨row2, e1, e2, e3, e4⟩ := row_setCells w.heap.size 52 [.int .i64 x, .int .u64 y] (i * 2) W1 row hW (by simp; omega)
  have hb2 : Below w.heap.size w (W1.setCells w.heap.size (i * 2) [.int .i64 x, .int .u64 y]) := below_setCells _ _ (Nat.le_refl _) w _ _ _ hb
  generalize W1.setCells w.heap.size (i * 2) [.int .i64 x, .int .u64 y] = W2 at run2 e1 hb2
  -- the second copy: the tail
  have hcl : (cs.toList.drop (i * 2)).length = (n - i) * 2 := by simp [hs]; omega
  have run3 : ∀ ty, (Builtin.copy_ #[43, 43] ty #[.slice (some ⟨w.heap.size, (i + 1) * 2, none⟩) (n + 1 - (i + 1)) (G - (i + 1)), .slice (some ⟨g, i * 2, none⟩) (n - i) (n - i)]).run Try.prog W2.drew = .ok (goInt ((n - i : Nat) : Int)) (W2.drew.setCells w.heap.size ((i + 1) * 2) (cs.toList.drop (i * 2))) := fun ty =>
    run_copy2 W2.drew 43 ty w.heap.size ((i + 1) * 2) (n - i) (G - (i + 1)) ⟨g, i * 2, none⟩ (n - i) (n - i) (n + 1 - (i + 1)) row2 _ (by simp only [Nat.min_def]; split <;> omega) hcl e1 (by omega) (fun j v hj => by
      rw [Addr.add_lit]
      show W2.cell? _ = _
      rw [hb2.cell (p := ⟨g, i * 2 + j, none⟩) hgw]
      simp only [World.cell?, hh, Option.isSome_none, Bool.false_eq_true, if_false]
      simpa using hj) (fun v hv => cells_one hn hs h3 v (List.mem_of_mem_drop hv))
  obtain ⟨row3, d1, d2, d3, d4⟩ := row_setCells w.heap.size 52 (cs.toList.drop (i * 2)) ((i + 1) * 2) W2.drew row2 e1 (by rw [hcl]; omega)
  have hb3 : Below w.heap.size w (W2.drew.setCells w.heap.size ((i + 1) * 2) (cs.toList.drop (i * 2))) := below_setCells _ _ (Nat.le_refl _) w _ _ _ hb2.drew
  generalize W2.drew.setCells w.heap.size ((i + 1) * 2) (cs.toList.drop (i * 2)) = W3 at run3 d1 hb3
  have HF : Hid (PRow W3 w.heap.size G (n + 1) (ps.take i ++ (x, y) :: ps.drop i)) := by
    refine ⟨row3, d1, by omega, fun k q hk hq => ?_⟩
    have htl : (ps.take i).length = i := by simp; omega
    have two : ∀ (a : Nat), a < 2 → [Value.int IntKind.i64 x, Value.int IntKind.u64 y].length = 2 := fun _ _ => rfl
    rcases Nat.lt_trichotomy k i with hki | rfl | hki
    · rw [List.getElem?_append_left (by omega), List.getElem?_take, if_pos hki] at hq
      have := h3 k q (by omega) hq
      rw [d4 _ (Or.inl (by omega)), e4 _ (Or.inl (by omega)), hr1 _ (by omega), d4 _ (Or.inl (by omega)), e4 _ (Or.inl (by omega)), hr1 _ (by omega)]
      exact this
    · rw [List.getElem?_append_right (by omega), htl] at hq
      simp at hq
      subst hq
      rw [d4 _ (Or.inl (by omega)), d4 _ (Or.inl (by omega)), e3 (k * 2) (by omega) (by simp), e3 (k * 2 + 1) (by omega) (by simp)]
      simp
    · rw [List.getElem?_append_right (by omega), htl] at hq
      obtain ⟨d, rfl⟩ : ∃ d, k = i + 1 + d := ⟨k - (i + 1), by omega⟩
      rw [show i + 1 + d - i = d + 1 by omega] at hq
      simp only [List.getElem?_cons_succ, List.getElem?_drop] at hq
      have := h3 (i + d) q (by omega) hq
      rw [d3 _ (by omega) (by rw [hcl]; omega), d3 _ (by omega) (by rw [hcl]; omega)]
      simp only [List.getElem?_drop, Array.getElem?_toList]
      rw [show i * 2 + ((i + 1 + d) * 2 - (i + 1) * 2) = (i + d) * 2 by omega, show i * 2 + ((i + 1 + d) * 2 + 1 - (i + 1) * 2) = (i + d) * 2 + 1 by omega]
      exact this
  have HB : Hid (Below w.heap.size w W3) := hb3
  have HG : Hid (n + 1 ≤ G) := hG
  have HRUN : Hid _ := hrun
  have HRUN3 : Hid _ := run3
  have hr2 := run2 3
  clear hrun run2 run3 hh hs h3 hW hrs hr1 hb e1 e2 e3 e4 d1 d2 d3 d4 hb2 hb3 hcl c0 c1 hn
  have hin : ((i : Int) == (n : Int)) = false := by simp; omega
  have hGi : ¬ G = i := by omega
  have hGi' : ¬ G = i + 1 := by omega
  have hni : ¬ n = i := by omega
  have hp0 : (0 : Int) ≤ (i : Int) + 1 := by omega
  have hp1 : (i : Int) + 1 ≤ (n : Int) + 1 := by omega
  have hp2 : ((i : Int) + 1).toNat = i + 1 := by omega
  have hp3 : (i : Int) ≤ (n : Int) := by omega
  have hp4 : i ≤ n := by omega
  have hp5 : IntKind.i64.wrap ((i : Int) + 1) = (i : Int) + 1 := by rw [IntKind.wrap_i64]; omega
  go_enter Try.func40, Try.ntmps40
  go_wp2_with (at_builtin; refine Lib.wpList_append_run _ rfl (.tmp 34) (.tmp 39) 43 3 rfl _ _ rfl rfl _ _ (HRUN.out _) ?_)
  go_region_law (refine in_copy rfl (.tmp 50) (.tmp 53) 43 43 rfl (.slice (some ⟨w.heap.size, (i + 1) * 2, none⟩) (n + 1 - (i + 1)) (G - (i + 1))) (.slice (some ⟨g, i * 2, none⟩) (n - i) (n - i)) (by simp [Act.eval, Act.put]) (by simp [Act.eval, Act.put]) (HRUN3.out 3) ?_)
  all_goals go_wp2
  go_ret
  exact ⟨_, G, rfl, HG.out, HF.out, HB.out⟩
end Go.Proofs.Qxb6602705a
