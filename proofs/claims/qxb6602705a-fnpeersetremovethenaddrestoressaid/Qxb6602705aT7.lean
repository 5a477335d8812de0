import Derived.Test.Qxb6602705aT6
namespace Go.Proofs.Qxb6602705a
open Go.RowKit
set_option linter.unusedVariables false

/-- The peer's bit in its word. -/
def bitOf (p : Int) : Int := IntKind.u64.wrap (2 ^ (p % 64).toNat)
/-- 'y &^ m' and 'y | m' on uint64. -/
def clr (y m : Int) : Int := bits BinOp.andNot IntKind.u64 y m
def orr (y m : Int) : Int := bits BinOp.or IntKind.u64 y m

theorem PRow.put {w : World} {g cap n k : Nat} {ps : List (Int × Int)} {x y : Int} (h : PRow w g cap n ps) (hk : k < n) (hc : n ≤ cap) (hp : ps[k]? = some (x, y)) (y' : Int) : PRow (w.setCell ⟨g, k * 2 + 1, none⟩ (.int .u64 y')) g cap n (ps.set k (x, y')) := by
  obtain ⟨cs, h1, h2, h3⟩ := h
  have hkl : k < ps.length := (List.getElem?_eq_some_iff.1 hp).1
  refine ⟨cs.setIfInBounds (k * 2 + 1) (.int .u64 y'), heap_setCell_same w g _ cs 52 _ h1, by simpa using h2, fun i q hi hq => ?_⟩
  by_cases e : i = k
  · subst e
    rw [List.getElem?_set_self hkl] at hq
    obtain rfl : (x, y') = q := by simpa using hq
    refine ⟨?_, ?_⟩
    · rw [Array.getElem?_setIfInBounds_ne (by omega)]; exact (h3 i (x, y) hi hp).1
    · rw [Array.getElem?_setIfInBounds_self_of_lt (by omega)]
  · rw [List.getElem?_set_ne (by omega)] at hq
    rw [Array.getElem?_setIfInBounds_ne (by omega), Array.getElem?_setIfInBounds_ne (by omega)]
    exact h3 i q hi hq

/-- THE PLAIN FUNCTION 'remove', as a relation: k is the place at which the search ends. -/
def RemRel (ps : List (Int × Int)) (p : Int) (ps' : List (Int × Int)) : Prop :=
  ∃ k, k ≤ ps.length ∧ Parted ps (p / 64) k k ∧
    (((¬ ∃ q, ps[k]? = some q ∧ q.1 = p / 64) ∧ ps' = ps) ∨
     (∃ y, ps[k]? = some (p / 64, y) ∧ ((clr y (bitOf p) = 0 ∧ ps' = ps.eraseIdx k) ∨ (clr y (bitOf p) ≠ 0 ∧ ps' = ps.set k (p / 64, clr y (bitOf p))))))
/-- What 'remove' leaves. -/
def RemSays (g n : Nat) (ps : List (Int × Int)) (p : Int) (w : World) (e : Ending) (w' : World) : Prop :=
  ∃ (m : Nat) (ps' : List (Int × Int)), e = .returned (.slice (some ⟨g, 0, none⟩) m n) ∧ m ≤ n ∧ ps'.length = m ∧ RemRel ps p ps' ∧ PRow w' g n m ps' ∧ Below g w w'

theorem rem_any (g n : Nat) (ps : List (Int × Int)) (p : Int) (w : World) (hl : n ≤ 1048576) (hn : ps.length = n) (h : PRow w g n n ps) (R : Rising ps) (hp0 : 0 ≤ p) (hp : p ≤ 9223372036854775807) :
    Calls Try.prog 36 #[.slice (some ⟨g, 0, none⟩) n n, .int .i64 p] w fun e w' => RemSays g n ps p w e w' := by
  have HN : Hid _ := hn
  have HR : Hid _ := R
  clear hn R
  have hq0 : 0 ≤ p / 64 := by omega
  have hq : p / 64 ≤ 9223372036854775807 := by omega
  have hgw := h.lt
  go_enter Try.func36, Try.ntmps36
  go_wp2
  go_quiet (fail)
  go_wp2_with fail
  refine (bs41 g n n n ps (p / 64) _ hl HN.out (Nat.le_refl _) ?_ HR.out hq0 hq).mono ?_
  · exact h
  rintro e w1 ⟨k, r, rfl, hk, hpt, hr, hb⟩
  have hk' : k ≤ n := by rw [← HN.out]; exact hk
  have HP : Hid _ := hpt
  have HRr : Hid _ := hr
  have hb1 : Below w.heap.size w w1 := (below_drewN (Below.refl w.heap.size w) nq).trans hb
  have h1 := h.below hb1
  clear hpt hr hb
  cases r
  · go_wp2
    go_ret
    exact ⟨n, ps, rfl, Nat.le_refl _, HN.out, ⟨k, hk, HP.out, Or.inl ⟨fun hc => by have := HRr.out.2 hc; simp at this, rfl⟩⟩, h1, hb1.mono (by omega)⟩
  · obtain ⟨⟨x, y⟩, hy, hx⟩ := HRr.out.1 rfl
    simp only at hx
    have hkn : k < n := by rw [← HN.out]; exact (List.getElem?_eq_some_iff.1 hy).1
    obtain ⟨d0, d1⟩ := h1.at hkn hy
    simp only at d0 d1
    have f1 := h1.frozen (k * 2 + 1)
    have HX : Hid (x = p / 64) := hx
    have HY : Hid (ps[k]? = some (x, y)) := hy
    clear hx hy
    have HQ : Hid (PRow (w1.setCell ⟨g, k * 2 + 1, none⟩ (.int .u64 (clr y (bitOf p)))) g n n (ps.set k (x, clr y (bitOf p)))) := h1.put hkn (Nat.le_refl _) HY.out _
    have HBq : Hid (Below g w (w1.setCell ⟨g, k * 2 + 1, none⟩ (.int .u64 (clr y (bitOf p))))) := by
      have hm : Below g w w1 := hb1.mono (by omega)
      exact hm.setCell (p := ⟨g, k * 2 + 1, none⟩) (Nat.le_refl g) _
    have HY' : Hid (ps[k]? = some (p / 64, y)) := by rw [← HX.out]; exact HY.out
    by_cases hz : bits BinOp.andNot IntKind.u64 y (IntKind.u64.wrap (2 ^ (p % 64).toNat)) = 0
    · have hzb : (bits BinOp.andNot IntKind.u64 y (IntKind.u64.wrap (2 ^ (p % 64).toNat)) == 0) = true := by simp [hz]
      have HZ : Hid (clr y (bitOf p) = 0) := hz
      clear hz
      go_wp2_with fail
      refine (del_any g n k _ _ hl ?_ hkn HQ.out).mono ?_
      · simp [HN.out]
      rintro e w2 ⟨rfl, h2, hb2⟩
      have H2 : Hid _ := h2
      have HB2 : Hid _ := hb2
      clear h2 hb2
      go_wp2
      go_ret
      refine ⟨n - 1, ps.eraseIdx k, rfl, by omega, by rw [List.length_eraseIdx_of_lt (by rw [HN.out]; exact hkn), HN.out], ⟨k, hk, HP.out, Or.inr ⟨y, HY'.out, Or.inl ⟨HZ.out, rfl⟩⟩⟩, ?_, HBq.out.trans HB2.out⟩
      have := H2.out
      rwa [List.eraseIdx_set_eq] at this
    · have hzb : (bits BinOp.andNot IntKind.u64 y (IntKind.u64.wrap (2 ^ (p % 64).toNat)) == 0) = false := by simp [hz]
      have HZ : Hid (clr y (bitOf p) ≠ 0) := hz
      clear hz
      go_wp2
      go_ret
      refine ⟨n, ps.set k (x, clr y (bitOf p)), rfl, Nat.le_refl _, by simp [HN.out], ⟨k, hk, HP.out, Or.inr ⟨y, HY'.out, Or.inr ⟨HZ.out, by rw [HX.out]⟩⟩⟩, HQ.out, HBq.out⟩
end Go.Proofs.Qxb6602705a
