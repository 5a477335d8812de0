import Derived.Test.Qxb6602705aT10
namespace Go.Proofs.Qxb6602705a
open Go.RowKit
set_option linter.unusedVariables false

def AddForm (ps : List (Int × Int)) (p : Int) (rs : List (Int × Int)) : Prop :=
  (∃ l r, ps = l ++ r ∧ (∀ q ∈ l, q.1 < p / 64) ∧ (∀ q ∈ r, p / 64 < q.1) ∧ rs = l ++ (p / 64, bitOf p) :: r) ∨
  (∃ l r y, ps = l ++ (p / 64, y) :: r ∧ rs = l ++ (p / 64, orr y (bitOf p)) :: r)

theorem add_form_no {ps : List (Int × Int)} {p : Int} {k : Nat} (hR : Rising ps) (hk : k ≤ ps.length) (h : Parted ps (p / 64) k k) (hno : ¬ ∃ q, ps[k]? = some q ∧ q.1 = p / 64) : AddForm ps p (ps.take k ++ (p / 64, bitOf p) :: ps.drop k) := by
  refine Or.inl ⟨ps.take k, ps.drop k, (List.take_append_drop k ps).symm, fun q hq => ?_, fun q hq => ?_, rfl⟩
  · obtain ⟨i, hi, rfl⟩ := List.getElem_of_mem hq
    simp only [List.length_take] at hi
    rw [List.getElem_take]
    exact h.1 i _ (by omega) (by rw [List.getElem?_eq_getElem])
  · obtain ⟨i, hi, rfl⟩ := List.getElem_of_mem hq
    simp only [List.length_drop] at hi
    rw [List.getElem_drop]
    have h1 := h.2 (k + i) ps[k + i] (by omega) (by simp)
    have h2 : ps[k].1 ≠ p / 64 := fun e => hno ⟨ps[k], by simp, e⟩
    have h3 := h.2 k ps[k] (Nat.le_refl _) (by simp)
    rcases Nat.eq_zero_or_pos i with rfl | hp
    · simp only [Nat.add_zero]; omega
    · have := hR.2 k (k + i) ps[k] ps[k + i] (by omega) (by simp) (by simp)
      omega

theorem ins_any (g n i gv : Nat) (ps : List (Int × Int)) (x y : Int) (w : World) (hl : n ≤ 1048576) (hn : ps.length = n) (hi : i ≤ n) (h : PRow w g n n ps) (c0 : w.cell? ⟨gv, 0, none⟩ = some (.int .i64 x)) (c1 : w.cell? ⟨gv, 1, none⟩ = some (.int .u64 y)) :
    Calls Try.prog 40 #[.slice (some ⟨g, 0, none⟩) n n, .int .i64 i, .slice (some ⟨gv, 0, none⟩) 1 1] w fun e w' => InsSays n i ps (x, y) w e w' := by
  by_cases e : i = n
  · subst e; exact ins_end g i gv ps x y w hl hn h c0 c1
  · exact ins_mid g n i gv ps x y w hl hn (by omega) h c0 c1

/-- What 'add' leaves. -/
def AddSays (g n : Nat) (ps : List (Int × Int)) (p : Int) (w : World) (e : Ending) (w' : World) : Prop :=
  ∃ (g' m c : Nat) (ps' : List (Int × Int)), e = .returned (.slice (some ⟨g', 0, none⟩) m c) ∧ m ≤ c ∧ m ≤ n + 1 ∧ ps'.length = m ∧ AddForm ps p ps' ∧ PRow w' g' c m ps' ∧ Below g w w'

theorem add_any (g n : Nat) (ps : List (Int × Int)) (p : Int) (w : World) (hl : n ≤ 1048576) (hn : ps.length = n) (h : PRow w g n n ps) (R : Rising ps) (hp0 : 0 ≤ p) (hp : p ≤ 9223372036854775807) :
    Calls Try.prog 35 #[.slice (some ⟨g, 0, none⟩) n n, .int .i64 p] w fun e w' => AddSays g n ps p w e w' := by
  have HN : Hid (ps.length = n) := hn
  have HR : Hid (Rising ps) := R
  clear hn R
  have hq0 : 0 ≤ p / 64 := by omega
  have hq : p / 64 ≤ 9223372036854775807 := by omega
  have hgw := h.lt
  go_enter Try.func35, Try.ntmps35
  go_wp2
  go_quiet (fail)
  go_wp2_with fail
  refine (bs39 g n n n ps (p / 64) _ hl HN.out (Nat.le_refl _) ?_ HR.out hq0 hq).mono ?_
  · exact h
  rintro e w1 ⟨k, r, rfl, hk, hpt, hr, hb⟩
  have hk' : k ≤ n := by rw [← HN.out]; exact hk
  have HP : Hid (Parted ps (p / 64) k k) := hpt
  have HK : Hid (k ≤ ps.length) := hk
  have HRr : Hid (r = true ↔ ∃ q, ps[k]? = some q ∧ q.1 = p / 64) := hr
  have hb1 : Below w.heap.size w w1 := (below_drewN (Below.refl w.heap.size w) nq).trans hb
  have h1 := h.below hb1
  clear hpt hr hb hk
  cases r
  · have HA : Hid (AddForm ps p (ps.take k ++ (p / 64, bitOf p) :: ps.drop k)) := add_form_no HR.out HK.out HP.out (fun hc => by have := HRr.out.2 hc; simp at this)
    have H1 : Hid (PRow w1 g n n ps) := h1
    clear h1
    go_wp2_with fail
    refine (ins_any g n k w1.heap.size ps (p / 64) (bitOf p) _ hl HN.out hk' ?_ ?_ ?_).mono ?_
    · exact H1.out.below ((Below.refl _ _).alloc (Nat.le_refl _) _)
    · rw [World.cell?_alloc_at _ _ _ _ rfl]; rfl
    · rw [World.cell?_alloc_at _ _ _ _ rfl]; rfl
    rintro e w2 ⟨g', G, rfl, hG, hrow, hb2⟩
    have HRow : Hid _ := hrow
    have HB2 : Hid _ := hb2
    clear hrow hb2
    go_wp2
    go_ret
    refine ⟨g', n + 1, G, _, rfl, hG, Nat.le_refl _, ?_, HA.out, HRow.out, ?_⟩
    · have := HK.out; have := HN.out; simp; omega
    · have e1 : Below g w1 (w1.alloc (.cells #[.int .i64 (p / 64), .int .u64 (bitOf p)] 52)) := (Below.refl _ _).alloc (by have := hb1.size; omega) _
      exact ((hb1.mono (by omega)).trans e1).trans (HB2.out.mono (by have := hb1.size; simp; omega))
  · obtain ⟨⟨x, y⟩, hy, hx⟩ := HRr.out.1 rfl
    simp only at hx
    have hkn : k < n := by rw [← HN.out]; exact (List.getElem?_eq_some_iff.1 hy).1
    obtain ⟨d0, d1⟩ := h1.at hkn hy
    simp only at d0 d1
    have f1 := h1.frozen (k * 2 + 1)
    have HX : Hid (x = p / 64) := hx
    have HY : Hid (ps[k]? = some (x, y)) := hy
    clear hx hy
    have HQ : Hid (PRow (w1.setCell ⟨g, k * 2 + 1, none⟩ (.int .u64 (orr y (bitOf p)))) g n n (ps.set k (x, orr y (bitOf p)))) := h1.put hkn (Nat.le_refl _) HY.out _
    have HBq : Hid (Below g w (w1.setCell ⟨g, k * 2 + 1, none⟩ (.int .u64 (orr y (bitOf p))))) := by
      have hm : Below g w w1 := hb1.mono (by omega)
      exact hm.setCell (p := ⟨g, k * 2 + 1, none⟩) (Nat.le_refl g) _
    have HY' : Hid (ps[k]? = some (p / 64, y)) := by rw [← HX.out]; exact HY.out
    go_wp2
    go_ret
    refine ⟨g, n, n, ps.set k (x, orr y (bitOf p)), rfl, Nat.le_refl _, by omega, by simp [HN.out], Or.inr ⟨ps.take k, ps.drop (k + 1), y, cut_at HY'.out, ?_⟩, HQ.out, HBq.out⟩
    rw [HX.out, set_at HY'.out]
end Go.Proofs.Qxb6602705a
