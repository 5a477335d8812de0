import Derived.Test.Qxb6602705aT4
namespace Go.Proofs.Qxb6602705a
open Go.RowKit
set_option linter.unusedVariables false

theorem cmp41 (x y t : Int) (w : World) (hx0 : 0 ≤ x) (hx : x ≤ 9223372036854775807) (ht0 : 0 ≤ t) (ht : t ≤ 9223372036854775807) :
    Calls Try.prog 41 #[.agg #[.int .i64 x, .int .u64 y], .int .i64 t] w fun e w' => e = .returned (.int .i64 (x - t)) ∧ Below w.heap.size w w' := by
  go_enter Try.func41, Try.ntmps41
  go_wp2
  go_ret
  exact ⟨rfl, (Below.refl _ _).alloc (Nat.le_refl _) _⟩

/-- The set's pairs: words within int's range, not negative, strictly rising. -/
def Rising (ps : List (Int × Int)) : Prop :=
  (∀ (i : Nat) (p : Int × Int), ps[i]? = some p → 0 ≤ p.1 ∧ p.1 ≤ 9223372036854775807) ∧ ∀ (i j : Nat) (p q : Int × Int), i < j → ps[i]? = some p → ps[j]? = some q → p.1 < q.1
/-- All ahead of place k precede t; none from k on does. -/
def Parted (ps : List (Int × Int)) (t : Int) (lo hi : Nat) : Prop := (∀ (i : Nat) (p : Int × Int), i < lo → ps[i]? = some p → p.1 < t) ∧ (∀ (i : Nat) (p : Int × Int), hi ≤ i → ps[i]? = some p → t ≤ p.1)
/-- What the search answers. -/
def BsSays (ps : List (Int × Int)) (t : Int) (w : World) (e : Ending) (w' : World) : Prop :=
  ∃ (k : Nat) (r : Bool), e = .returned (.tuple #[.int .i64 k, .bool r]) ∧ k ≤ ps.length ∧ Parted ps t k k ∧ (r = true ↔ ∃ p, ps[k]? = some p ∧ p.1 = t) ∧ Below w.heap.size w w'

theorem pat {ps : List (Int × Int)} {k : Nat} (h : k < ps.length) : ∃ x y, ps[k]? = some (x, y) := ⟨ps[k].1, ps[k].2, by simp [h]⟩

theorem parted_up {ps : List (Int × Int)} {t x y : Int} {lo hi m : Nat} (R : Rising ps) (h : Parted ps t lo hi) (hm : ps[m]? = some (x, y)) (hx : x < t) : Parted ps t (m + 1) hi := by
  refine ⟨fun i p hi' hp => ?_, h.2⟩
  by_cases e : i = m
  · subst e; rw [hm] at hp; obtain rfl : (x, y) = p := by simpa using hp
    exact hx
  · have := R.2 i m p (x, y) (by omega) hp hm; simp at this; omega
theorem parted_down {ps : List (Int × Int)} {t x y : Int} {lo hi m : Nat} (R : Rising ps) (h : Parted ps t lo hi) (hm : ps[m]? = some (x, y)) (hx : t ≤ x) : Parted ps t lo m := by
  refine ⟨h.1, fun i p hi' hp => ?_⟩
  by_cases e : i = m
  · subst e; rw [hm] at hp; obtain rfl : (x, y) = p := by simpa using hp
    exact hx
  · have := R.2 m i (x, y) p (by omega) hm hp; simp at this; omega

theorem bs41 (g n cap c : Nat) (ps : List (Int × Int)) (t : Int) (w : World) (hl : n ≤ 1048576) (hn : ps.length = n) (hcap : n ≤ cap) (h : PRow w g cap n ps) (R : Rising ps) (ht0 : 0 ≤ t) (ht : t ≤ 9223372036854775807) :
    Calls Try.prog 38 #[.slice (some ⟨g, 0, none⟩) n c, .int .i64 t, .func (.func 41) #[] #[]] w fun e w' => BsSays ps t w e w' := by
  have HN : Hid _ := hn
  have HR : Hid _ := R
  clear hn R
  go_enter Try.func38, Try.ntmps38
  go_wp2
  go_loopw [9, 10] (fun s9 s10 wr => ∃ lo hi : Nat, s9 = .int .i64 lo ∧ s10 = .int .i64 hi ∧ lo ≤ hi ∧ hi ≤ n ∧ Parted ps t lo hi ∧ Below w.heap.size w wr) (fun s9 s10 _ => (intOf s10).toNat - (intOf s9).toNat)
  case atStart => exact ⟨0, n, rfl, rfl, Nat.zero_le _, Nat.le_refl _, ⟨fun i p hi => absurd hi (Nat.not_lt_zero _), fun i p hi hp => by have := (List.getElem?_eq_some_iff.1 hp).1; have := HN.out; omega⟩, Below.refl _ _⟩
  case round =>
    obtain ⟨lo, hi, rfl, rfl, hlh, hhn, hp, hb⟩ := hrel
    by_cases hlt : lo < hi
    · obtain ⟨x, y, hxy⟩ := pat (ps := ps) (k := (lo + hi) / 2) (by rw [HN.out]; omega)
      obtain ⟨d0, d1⟩ := (h.below hb).at (show (lo + hi) / 2 < n by omega) hxy
      obtain ⟨hx0, hx⟩ := HR.out.1 _ _ hxy
      simp only at d0 d1 hx0 hx
      have P : Hid _ := hxy
      clear hxy
      have HB : Hid _ := hb
      clear hb
      by_cases hxt : x < t
      · go_wp2_with (go_at_call 41; refine (cmp41 _ _ _ _ hx0 hx ht0 ht).mono ?_; rintro e w' ⟨rfl, hb'⟩)
        go_roundw
        case rel => exact ⟨(lo + hi) / 2 + 1, hi, by go_num, rfl, by omega, hhn, parted_up HR.out hp P.out hxt, HB.out.trans (hb'.mono HB.out.size)⟩
        case measure => simp [intOf]; omega
      · go_wp2_with (go_at_call 41; refine (cmp41 _ _ _ _ hx0 hx ht0 ht).mono ?_; rintro e w' ⟨rfl, hb'⟩)
        go_roundw
        case rel => exact ⟨lo, (lo + hi) / 2, rfl, by go_num, by omega, by omega, parted_down HR.out hp P.out (by omega), HB.out.trans (hb'.mono HB.out.size)⟩
        case measure => simp [intOf]; omega
    · obtain rfl : hi = lo := by omega
      by_cases hln : hi < n
      · obtain ⟨x, y, hxy⟩ := pat (ps := ps) (k := hi) (by rw [HN.out]; omega)
        obtain ⟨d0, d1⟩ := (h.below hb).at hln hxy
        obtain ⟨hx0, hx⟩ := HR.out.1 _ _ hxy
        simp only at d0 d1 hx0 hx
        have P : Hid _ := hxy
        have HB : Hid _ := hb
        clear hxy hb
        go_wp2_with (go_at_call 41; refine (cmp41 _ _ _ _ hx0 hx ht0 ht).mono ?_; rintro e w' ⟨rfl, hb'⟩)
        go_ret2
        refine ⟨hi, x - t == 0, rfl, by rw [HN.out]; exact hhn, hp, ?_, HB.out.trans (hb'.mono HB.out.size)⟩
        rw [P.out]
        simp
        omega
      · go_wp2
        go_ret2
        refine ⟨hi, false, rfl, by rw [HN.out]; exact hhn, hp, ?_, hb⟩
        rw [List.getElem?_eq_none (by rw [HN.out]; omega)]
        simp

theorem cmp39 (x y t : Int) (w : World) (hx0 : 0 ≤ x) (hx : x ≤ 9223372036854775807) (ht0 : 0 ≤ t) (ht : t ≤ 9223372036854775807) :
    Calls Try.prog 39 #[.agg #[.int .i64 x, .int .u64 y], .int .i64 t] w fun e w' => e = .returned (.int .i64 (x - t)) ∧ Below w.heap.size w w' := by
  go_enter Try.func39, Try.ntmps39
  go_wp2
  go_ret
  exact ⟨rfl, (Below.refl _ _).alloc (Nat.le_refl _) _⟩

theorem bs39 (g n cap c : Nat) (ps : List (Int × Int)) (t : Int) (w : World) (hl : n ≤ 1048576) (hn : ps.length = n) (hcap : n ≤ cap) (h : PRow w g cap n ps) (R : Rising ps) (ht0 : 0 ≤ t) (ht : t ≤ 9223372036854775807) :
    Calls Try.prog 38 #[.slice (some ⟨g, 0, none⟩) n c, .int .i64 t, .func (.func 39) #[] #[]] w fun e w' => BsSays ps t w e w' := by
  have HN : Hid _ := hn
  have HR : Hid _ := R
  clear hn R
  go_enter Try.func38, Try.ntmps38
  go_wp2
  go_loopw [9, 10] (fun s9 s10 wr => ∃ lo hi : Nat, s9 = .int .i64 lo ∧ s10 = .int .i64 hi ∧ lo ≤ hi ∧ hi ≤ n ∧ Parted ps t lo hi ∧ Below w.heap.size w wr) (fun s9 s10 _ => (intOf s10).toNat - (intOf s9).toNat)
  case atStart => exact ⟨0, n, rfl, rfl, Nat.zero_le _, Nat.le_refl _, ⟨fun i p hi => absurd hi (Nat.not_lt_zero _), fun i p hi hp => by have := (List.getElem?_eq_some_iff.1 hp).1; have := HN.out; omega⟩, Below.refl _ _⟩
  case round =>
    obtain ⟨lo, hi, rfl, rfl, hlh, hhn, hp, hb⟩ := hrel
    by_cases hlt : lo < hi
    · obtain ⟨x, y, hxy⟩ := pat (ps := ps) (k := (lo + hi) / 2) (by rw [HN.out]; omega)
      obtain ⟨d0, d1⟩ := (h.below hb).at (show (lo + hi) / 2 < n by omega) hxy
      obtain ⟨hx0, hx⟩ := HR.out.1 _ _ hxy
      simp only at d0 d1 hx0 hx
      have P : Hid _ := hxy
      clear hxy
      have HB : Hid _ := hb
      clear hb
      by_cases hxt : x < t
      · go_wp2_with (go_at_call 39; refine (cmp39 _ _ _ _ hx0 hx ht0 ht).mono ?_; rintro e w' ⟨rfl, hb'⟩)
        go_roundw
        case rel => exact ⟨(lo + hi) / 2 + 1, hi, by go_num, rfl, by omega, hhn, parted_up HR.out hp P.out hxt, HB.out.trans (hb'.mono HB.out.size)⟩
        case measure => simp [intOf]; omega
      · go_wp2_with (go_at_call 39; refine (cmp39 _ _ _ _ hx0 hx ht0 ht).mono ?_; rintro e w' ⟨rfl, hb'⟩)
        go_roundw
        case rel => exact ⟨lo, (lo + hi) / 2, rfl, by go_num, by omega, by omega, parted_down HR.out hp P.out (by omega), HB.out.trans (hb'.mono HB.out.size)⟩
        case measure => simp [intOf]; omega
    · obtain rfl : hi = lo := by omega
      by_cases hln : hi < n
      · obtain ⟨x, y, hxy⟩ := pat (ps := ps) (k := hi) (by rw [HN.out]; omega)
        obtain ⟨d0, d1⟩ := (h.below hb).at hln hxy
        obtain ⟨hx0, hx⟩ := HR.out.1 _ _ hxy
        simp only at d0 d1 hx0 hx
        have P : Hid _ := hxy
        have HB : Hid _ := hb
        clear hxy hb
        go_wp2_with (go_at_call 39; refine (cmp39 _ _ _ _ hx0 hx ht0 ht).mono ?_; rintro e w' ⟨rfl, hb'⟩)
        go_ret2
        refine ⟨hi, x - t == 0, rfl, by rw [HN.out]; exact hhn, hp, ?_, HB.out.trans (hb'.mono HB.out.size)⟩
        rw [P.out]
        simp
        omega
      · go_wp2
        go_ret2
        refine ⟨hi, false, rfl, by rw [HN.out]; exact hhn, hp, ?_, hb⟩
        rw [List.getElem?_eq_none (by rw [HN.out]; omega)]
        simp
end Go.Proofs.Qxb6602705a
