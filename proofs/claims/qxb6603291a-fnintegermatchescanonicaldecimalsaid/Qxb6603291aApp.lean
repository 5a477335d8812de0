import Derived.Test.Qxb6603291aBase
import Derived.Test.Qxb6603291aDec
import Derived.Lib.AppendZeros
import Derived.Laws.CopyOwn
namespace Go.Proofs.Qxb6603291a
open Go.RowKit
set_option linter.unusedVariables false

/-- A row of bytes in a block of its own, room for 'cap', the first of them known. -/
def BRow (w : World) (g cap : Nat) (zs : List Int) : Prop :=
  zs.length ≤ cap ∧ ∃ cs : Array Value, w.heap[g]? = some (.cells cs 5 (0, 0)) ∧ cs.size = cap ∧ ∀ (i : Nat) (x : Int), zs[i]? = some x → cs[i]? = some (Value.int .u8 x)

theorem BRow.ints {w : World} {g cap : Nat} {zs : List Int} (h : BRow w g cap zs) : Ints .u8 w (some ⟨g, 0, none⟩) zs := by
  obtain ⟨h0, cs, h1, h2, h3⟩ := h
  refine ⟨g, 0, fun _ => rfl, fun i x hx => ?_⟩
  have := h3 i x hx
  simpa [World.cell?, h1] using this
theorem BRow.lt {w : World} {g cap : Nat} {zs : List Int} (h : BRow w g cap zs) : g < w.heap.size := by
  obtain ⟨h0, cs, h1, h2, h3⟩ := h
  exact (Array.getElem?_eq_some_iff.1 h1).1
theorem BRow.same {w w' : World} {g cap : Nat} {zs : List Int} (h : BRow w g cap zs) (e : w'.heap[g]? = w.heap[g]?) : BRow w' g cap zs := by
  obtain ⟨h0, cs, h1, h2, h3⟩ := h
  exact ⟨h0, cs, by rw [e]; exact h1, h2, h3⟩
theorem BRow.below {w w' : World} {g cap : Nat} {zs : List Int} (h : BRow w g cap zs) (hb : Below w.heap.size w w') : BRow w' g cap zs := h.same (hb.block g h.lt)
theorem BRow.made {w : World} {base g cap : Nat} (h : w.ownsRow base 5 1 (.slice (some ⟨g, 0, none⟩) 0 cap) 0 []) : BRow w g cap [] := by
  rcases h.2 with ⟨h', _⟩ | ⟨g', cap', cur, h', hb, hg, hnc, hcm, hcs, htake⟩
  · simp at h'
  · simp only [Value.slice.injEq, Option.some.injEq, Addr.mk.injEq, and_true, true_and] at h'
    obtain ⟨rfl, rfl⟩ := h'
    exact ⟨Nat.zero_le _, cur, hg, by simpa using hcs, fun i x hx => by simp at hx⟩

/-- 'append(dst, src...)' where there is room: src whatever. -/
theorem run_app (w : World) (g cap : Nat) (zs ys : List Int) (a : Option Addr) (c : Nat) (h : BRow w g cap zs) (hs : Ints .u8 w a ys) (hroom : zs.length + ys.length ≤ cap) :
    ∃ W, (∀ ty, (Builtin.append_ #[22, 22] ty #[.slice (some ⟨g, 0, none⟩) zs.length cap, .slice a ys.length c]).run Try.prog w = .ok (.slice (some ⟨g, 0, none⟩) (zs.length + ys.length) cap) W) ∧
      BRow W g cap (zs ++ ys) ∧ W.heap.size = w.heap.size ∧ (∀ k, k ≠ g → W.heap[k]? = w.heap[k]?) ∧ Below g w W := by
  obtain ⟨i0, hi0, hz0, hz1, hz2⟩ := info_parts Try.info5
  obtain ⟨h0, cs, h1, h2, h3⟩ := h
  obtain ⟨b, off, q0, g0⟩ := hs
  by_cases hy : ys = []
  · subst hy
    refine ⟨w, fun ty => ?_, by simpa using ⟨h0, cs, h1, h2, h3⟩, rfl, fun _ _ => rfl, Below.refl _ _⟩
    have hle : zs.length ≤ cap := h0
    cases a <;> simp [Builtin.append_, run_underlying Try.underlying22, sizeOf, typeInfo, hi0, Builtin.lenOf, Builtin.firstCells, hle, loadCells, loadCellsFrom, storeCells]
  · rw [q0 hy]
    have hr := fun ty => run_append_room (P := Try.prog) w 22 ty 5 i0 Try.underlying22 hi0 g zs.length cap cs h1 ⟨b, off, none⟩ ys.length c (ys.map (Value.int .u8)) (by rw [hz1]; simp) (fun j u hj => by
        rw [Addr.add_lit]
        rw [List.getElem?_map] at hj
        cases hq : ys[j]? with
        | none => rw [hq] at hj; simp at hj
        | some x => rw [hq] at hj; simp at hj; subst hj; exact g0 j x hq) (ints_oneCell _ _) hroom (by rw [hz1]; simp; omega)
    refine ⟨_, hr, ⟨by simpa using hroom, _, setRow_heap w g cs _ 5 _ h1, ?_, fun i x hx => ?_⟩, by simp [World.setRow], fun k hk => setRow_other w g k _ hk, below_setRow (Below.refl _ _) (Nat.le_refl _) _⟩
    · simp [hz1]; omega
    · simp only [hz1, Nat.mul_one, List.getElem?_toArray]
      by_cases e : i < zs.length
      · rw [List.getElem?_append_left e] at hx
        rw [List.append_assoc, List.getElem?_append_left (by simp; omega), List.getElem?_take, if_pos e]
        simpa using h3 i x hx
      · rw [List.getElem?_append_right (by omega)] at hx
        have hl : (cs.toList.take zs.length).length = zs.length := by simp; omega
        have hxl : i - zs.length < ys.length := (List.getElem?_eq_some_iff.1 hx).1
        rw [List.append_assoc, List.getElem?_append_right (by omega), hl, List.getElem?_append_left (by simpa using hxl), List.getElem?_map, hx]
        rfl
end Go.Proofs.Qxb6603291a
