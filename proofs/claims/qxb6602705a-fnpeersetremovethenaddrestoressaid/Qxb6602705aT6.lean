import Derived.Test.Qxb6602705aT5
import Derived.Deep.RegionLaw
import Derived.Laws.CopyOwn
namespace Go.Proofs.Qxb6602705a
open Go.RowKit
set_option linter.unusedVariables false

/-- A row behind stores into it, cell by cell. -/
theorem row_setCells (g : Nat) (t : TypeId) : ∀ (vs : List Value) (o : Nat) (w : World) (cs : Array Value), w.heap[g]? = some (.cells cs t (0, 0)) → o + vs.length ≤ cs.size →
    ∃ cs' : Array Value, (w.setCells g o vs).heap[g]? = some (.cells cs' t (0, 0)) ∧ cs'.size = cs.size ∧ (∀ j, o ≤ j → j < o + vs.length → cs'[j]? = vs[j - o]?) ∧ (∀ j, j < o ∨ o + vs.length ≤ j → cs'[j]? = cs[j]?)
  | [], o, w, cs, h, _ => ⟨cs, h, rfl, fun j h1 h2 => by simp at h2; omega, fun j _ => rfl⟩
  | v :: r, o, w, cs, h, hl => by
    simp only [List.length_cons] at hl
    obtain ⟨cs', h1, h2, h3, h4⟩ := row_setCells g t r (o + 1) (w.setCell ⟨g, o, none⟩ v) (cs.setIfInBounds o v) (heap_setCell_same w g o cs t v h) (by simp; omega)
    refine ⟨cs', h1, by simpa using h2, fun j hj1 hj2 => ?_, fun j hj => ?_⟩
    · by_cases e : j = o
      · subst e
        rw [h4 j (Or.inl (by omega)), Array.getElem?_setIfInBounds_self_of_lt (by omega)]
        simp
      · simp only [List.length_cons] at hj2
        rw [h3 j (by omega) (by omega)]
        obtain ⟨d, rfl⟩ : ∃ d, j = o + 1 + d := ⟨j - (o + 1), by omega⟩
        rw [show o + 1 + d - (o + 1) = d by omega, show o + 1 + d - o = d + 1 by omega]
        simp
    · simp only [List.length_cons] at hj
      rw [h4 j (by omega), Array.getElem?_setIfInBounds_ne (by omega)]

theorem below_setCells (g B : Nat) (hB : B ≤ g) (w0 : World) : ∀ (vs : List Value) (o : Nat) (w : World), Below B w0 w → Below B w0 (w.setCells g o vs)
  | [], _, _, h => h
  | v :: r, o, w, h => below_setCells g B hB w0 r (o + 1) _ (h.setCell hB v)

/-- clear of one pair. -/
theorem run_clear1 (w : World) (g off ty : Nat) (cs : Array Value) (hh : w.heap[g]? = some (.cells cs 52 (0, 0))) (hf : off + 2 ≤ cs.size) (c : Nat) :
    (Builtin.clear_ #[43] ty #[.slice (some ⟨g, off, none⟩) 1 c]).run Try.prog w = .ok (.tuple #[]) (w.setCells g off [.int .i64 0, .int .u64 0]) := by
  have hzc : (Builtin.zeroCells (Value.agg #[.int .i64 0, .int .u64 0]).cells 1).toList = [.int .i64 0, .int .u64 0] := by kernel_rfl
  have hst := run_storeCells_cells (P := Try.prog) g off [.int .i64 0, .int .u64 0] 0 w (fun j hj => by
      simp only [List.length_cons, List.length_nil] at hj
      have : off + 0 + j < cs.size := by omega
      simp only [World.cell?, hh, Option.isSome_none, Bool.false_eq_true, if_false]
      rw [Array.getElem?_eq_getElem this]; rfl) (fun j hj => by simp [World.frozen?, hh]) (by intro v hv; simp at hv; rcases hv with rfl | rfl <;> rfl)
  simp only [Nat.add_zero] at hst
  simp [Builtin.clear_, run_underlying Try.underlying43, hzc, hst]

/-- The cells that 'append(s[:k], s[k+1:]...)' moves. -/
def movedCells (cs : Array Value) (k : Nat) : List Value := cs.toList.drop ((k + 1) * 2)

/-- Every cell of a row that is known whole is one cell. -/
theorem cells_one {cs : Array Value} {n : Nat} {ps : List (Int × Int)} (hn : ps.length = n) (h2 : cs.size = n * 2) (h3 : ∀ (i : Nat) (p : Int × Int), i < n → ps[i]? = some p → cs[i * 2]? = some (.int .i64 p.1) ∧ cs[i * 2 + 1]? = some (.int .u64 p.2)) :
    ∀ v ∈ cs.toList, v.oneCell' = true := by
  intro v hv
  obtain ⟨j, hj, rfl⟩ := List.getElem_of_mem hv
  simp only [Array.length_toList] at hj
  have hi : j / 2 < ps.length := by omega
  have := h3 (j / 2) ps[j / 2] (by omega) (by simp [hi])
  rcases Nat.mod_two_eq_zero_or_one j with e | e
  · have e' : j / 2 * 2 = j := by omega
    rw [e', Array.getElem?_eq_getElem hj] at this
    simp only [Option.some.injEq] at this
    rw [Array.getElem_toList, this.1]; rfl
  · have e' : j / 2 * 2 + 1 = j := by omega
    rw [e', Array.getElem?_eq_getElem hj] at this
    simp only [Option.some.injEq] at this
    rw [Array.getElem_toList, this.2]; rfl

/-- What Delete leaves. -/
def DelSays (g n k : Nat) (ps : List (Int × Int)) (w : World) (e : Ending) (w' : World) : Prop := e = .returned (.slice (some ⟨g, 0, none⟩) (n - 1) n) ∧ PRow w' g n (n - 1) (ps.eraseIdx k) ∧ Below g w w'

theorem del_row {g n k : Nat} {ps : List (Int × Int)} {w : World} {cs : Array Value} (hn : ps.length = n) (hk : k < n) (hh : w.heap[g]? = some (.cells cs 52 (0, 0))) (hs : cs.size = n * 2)
    (h3 : ∀ (i : Nat) (p : Int × Int), i < n → ps[i]? = some p → cs[i * 2]? = some (.int .i64 p.1) ∧ cs[i * 2 + 1]? = some (.int .u64 p.2)) :
    PRow ((w.drew.setCells g (k * 2) (movedCells cs k)).setCells g ((n - 1) * 2) [.int .i64 0, .int .u64 0]) g n (n - 1) (ps.eraseIdx k) := by
  have hml : (movedCells cs k).length = (n - (k + 1)) * 2 := by simp [movedCells, hs]; omega
  obtain ⟨c1, a1, a2, a3, a4⟩ := row_setCells g 52 (movedCells cs k) (k * 2) w.drew cs hh (by omega)
  obtain ⟨c2, b1, b2, b3, b4⟩ := row_setCells g 52 [.int .i64 0, .int .u64 0] ((n - 1) * 2) _ c1 a1 (by simp; omega)
  refine ⟨c2, b1, by omega, fun i p hi hp => ?_⟩
  have key : ∀ d, d < 2 → c2[i * 2 + d]? = if i < k then cs[i * 2 + d]? else cs[(i + 1) * 2 + d]? := by
    intro d hd
    rw [b4 _ (Or.inl (by omega))]
    by_cases hik : i < k
    · rw [a4 _ (Or.inl (by omega)), if_pos hik]
    · rw [a3 _ (by omega) (by omega), if_neg hik]
      simp only [movedCells, List.getElem?_drop, Array.getElem?_toList]
      congr 1; omega
  have k0 := key 0 (by omega)
  have k1 := key 1 (by omega)
  simp only [Nat.add_zero] at k0
  rw [k0, k1]
  rw [List.getElem?_eraseIdx] at hp
  by_cases hik : i < k
  · simp only [hik, if_true] at hp ⊢
    exact h3 i p (by omega) hp
  · simp only [hik, if_false] at hp ⊢
    exact h3 (i + 1) p (by omega) hp

theorem del_mid (g n k : Nat) (ps : List (Int × Int)) (w : World) (hl : n ≤ 1048576) (hn : ps.length = n) (hk : k + 1 < n) (h : PRow w g n n ps) :
    Calls Try.prog 42 #[.slice (some ⟨g, 0, none⟩) n n, .int .i64 k, .int .i64 ((k : Int) + 1)] w fun e w' => DelSays g n k ps w e w' := by
  obtain ⟨i0, hi0, hz0, hz1, hz2⟩ := info_parts Try.info52
  obtain ⟨cs, hh, hs, h3⟩ := h
  have h1 := cells_one hn hs h3
  have s1 : Hid ((movedCells cs k).length = (n - (k + 1)) * 2) := by show _ = _; simp [movedCells, hs]; omega
  have s2 : Hid (∀ u ∈ movedCells cs k, u.oneCell' = true) := fun u hu => h1 u (List.mem_of_mem_drop hu)
  have hnews : Hid (∀ j u, (movedCells cs k)[j]? = some u → w.drew.cell? ((⟨g, (k + 1) * 2, none⟩ : Addr).add j) = some u) := by
    intro j u hu
    rw [Addr.add_lit]
    show w.cell? _ = _
    simp only [World.cell?, hh]
    simpa [movedCells] using hu
  have s3 : Hid (∀ j, j < (movedCells cs k).length → (w.drew.cell? ⟨g, 0 + k * 2 + j, none⟩).isSome = true ∧ w.drew.frozen? ⟨g, 0 + k * 2 + j, none⟩ = false) := by
    intro j hj
    rw [s1.out] at hj
    refine ⟨?_, ?_⟩
    · show (w.cell? _).isSome = true
      have : 0 + k * 2 + j < cs.size := by omega
      simp only [World.cell?, hh, Option.isSome_none, Bool.false_eq_true, if_false]
      rw [Array.getElem?_eq_getElem this]; rfl
    · show w.frozen? _ = false
      simp [World.frozen?, hh]
  obtain ⟨c1, a1, a2, _, _⟩ := row_setCells g 52 (movedCells cs k) (k * 2) w.drew cs hh (by rw [s1.out]; omega)
  have hclr0 := run_clear1 (w.drew.setCells g (k * 2) (movedCells cs k)) g ((n - 1) * 2) 0 c1 a1 (by omega) 1
  have HF : Hid (PRow ((w.drew.setCells g (k * 2) (movedCells cs k)).setCells g ((n - 1) * 2) [.int .i64 0, .int .u64 0]) g n (n - 1) (ps.eraseIdx k)) := del_row hn (by omega) hh hs h3
  have HB : Hid (Below g w ((w.drew.setCells g (k * 2) (movedCells cs k)).setCells g ((n - 1) * 2) [.int .i64 0, .int .u64 0])) := below_setCells g g (Nat.le_refl _) w _ _ _ (below_setCells g g (Nat.le_refl _) w _ _ _ (Below.refl _ _).drew)
  generalize ((w.drew.setCells g (k * 2) (movedCells cs k)).setCells g ((n - 1) * 2) [.int .i64 0, .int .u64 0]) = W2 at hclr0 HF HB
  have hclr : (Builtin.clear_ #[43] 0 #[.slice (some ⟨g, (k + (n - (k + 1))) * 2, none⟩) (n - (k + (n - (k + 1)))) (n - (k + (n - (k + 1))))]).run Try.prog (w.drew.setCells g (k * 2) (movedCells cs k)) = .ok (.tuple #[]) W2 := by
    rw [show k + (n - (k + 1)) = n - 1 by omega, show n - (n - 1) = 1 by omega]; exact hclr0
  clear hh hs h1 h3 hclr0 a1 a2 hn
  have hkn : k ≤ n := by omega
  have hp0 : (0 : Int) ≤ (k : Int) + 1 := by omega
  have hp1 : (k : Int) + 1 ≤ (n : Int) := by omega
  have hp2 : ((k : Int) + 1).toNat = k + 1 := by omega
  have hp3 : ¬ n = k + 1 := by omega
  have hkk : ((k : Int) == (k : Int) + 1) = false := by simp; omega
  go_enter Try.func42, Try.ntmps42
  go_wp2_with fail
  go_region_law (refine step_append_room rfl (.tmp 22) (.tmp 25) 43 rfl 52 i0 2 Try.underlying43 hi0 hz1 g 0 k n (by simp [Act.eval, Act.put]) ⟨g, (k + 1) * 2, none⟩ (n - (k + 1)) (n - (k + 1)) (movedCells cs k) (by simp [Act.eval, Act.put]) s1.out hnews.out s2.out (by omega) s3.out ?_)
  all_goals go_wp2
  go_ret
  refine ⟨?_, HF.out, HB.out⟩
  show Ending.returned (.slice (some ⟨g, 0, none⟩) (k + (n - (k + 1))) n) = _
  rw [show k + (n - (k + 1)) = n - 1 by omega]

theorem del_end (g k : Nat) (ps : List (Int × Int)) (w : World) (hl : k + 1 ≤ 1048576) (hn : ps.length = k + 1) (h : PRow w g (k + 1) (k + 1) ps) :
    Calls Try.prog 42 #[.slice (some ⟨g, 0, none⟩) (k + 1) (k + 1), .int .i64 k, .int .i64 ((k : Int) + 1)] w fun e w' => DelSays g (k + 1) k ps w e w' := by
  obtain ⟨i0, hi0, hz0, hz1, hz2⟩ := info_parts Try.info52
  obtain ⟨cs, hh, hs, h3⟩ := h
  have hmv : movedCells cs k = [] := by
    apply List.drop_eq_nil_of_le; simp; omega
  have s1 : Hid (([] : List Value).length = 0 * 2) := rfl
  have s2 : Hid (∀ u ∈ ([] : List Value), u.oneCell' = true) := fun u hu => by simp at hu
  have hnews : Hid (∀ j u, ([] : List Value)[j]? = some u → w.drew.cell? ((⟨g, 0, none⟩ : Addr).add j) = some u) := fun j u hu => by simp at hu
  have s3 : Hid (∀ j, j < ([] : List Value).length → (w.drew.cell? ⟨g, 0 + k * 2 + j, none⟩).isSome = true ∧ w.drew.frozen? ⟨g, 0 + k * 2 + j, none⟩ = false) := fun j hj => by simp at hj
  have hclr0 := run_clear1 w.drew g (k * 2) 0 cs hh (by omega) 1
  have HF : Hid (PRow (w.drew.setCells g (k * 2) [.int .i64 0, .int .u64 0]) g (k + 1) (k + 1 - 1) (ps.eraseIdx k)) := by
    have := del_row hn (Nat.lt_succ_self k) hh hs h3
    rw [hmv] at this
    exact this
  have HB : Hid (Below g w (w.drew.setCells g (k * 2) [.int .i64 0, .int .u64 0])) := below_setCells g g (Nat.le_refl _) w _ _ _ (Below.refl _ _).drew
  generalize w.drew.setCells g (k * 2) [.int .i64 0, .int .u64 0] = W2 at hclr0 HF HB
  have hclr : (Builtin.clear_ #[43] 0 #[.slice (some ⟨g, k * 2, none⟩) 1 1]).run Try.prog (w.drew.setCells g (k * 2) []) = .ok (.tuple #[]) W2 := hclr0
  clear hh hs h3 hn hmv hclr0
  have hp0 : (0 : Int) ≤ (k : Int) + 1 := by omega
  have hp2 : ((k : Int) + 1).toNat = k + 1 := by omega
  have hkk : ((k : Int) == (k : Int) + 1) = false := by simp; omega
  have hkn : (k : Int) ≤ (k : Int) + 1 := by omega
  go_enter Try.func42, Try.ntmps42
  go_wp2_with fail
  go_region_law (refine step_append_room rfl (.tmp 22) (.tmp 25) 43 rfl 52 i0 2 Try.underlying43 hi0 hz1 g 0 k (k + 1) (by simp [Act.eval, Act.put]) ⟨g, 0, none⟩ 0 0 [] (by simp [Act.eval, Act.put]) s1.out hnews.out s2.out (by omega) s3.out ?_)
  all_goals go_wp2
  go_ret
  exact ⟨rfl, HF.out, HB.out⟩

theorem del_any (g n k : Nat) (ps : List (Int × Int)) (w : World) (hl : n ≤ 1048576) (hn : ps.length = n) (hk : k < n) (h : PRow w g n n ps) :
    Calls Try.prog 42 #[.slice (some ⟨g, 0, none⟩) n n, .int .i64 k, .int .i64 ((k : Int) + 1)] w fun e w' => DelSays g n k ps w e w' := by
  by_cases e : n = k + 1
  · subst e; exact del_end g k ps w hl hn h
  · exact del_mid g n k ps w hl hn (by omega) h
end Go.Proofs.Qxb6602705a
