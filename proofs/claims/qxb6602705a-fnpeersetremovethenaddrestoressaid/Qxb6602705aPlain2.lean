import Derived.Test.Qxb6602705aT11
namespace Go.Proofs.Qxb6602705a
open Go.RowKit
set_option linter.unusedVariables false

theorem srt_put {l r : List (Int × Int)} {t : Int} (h : Srt (l ++ r)) (hl : ∀ q ∈ l, q.1 < t) (hr : ∀ q ∈ r, t < q.1) (y : Int) : Srt (l ++ (t, y) :: r) := by
  unfold Srt at h ⊢
  rw [List.pairwise_append] at h
  rw [List.pairwise_append, List.pairwise_cons]
  refine ⟨h.1, ⟨fun q hq => hr q hq, h.2.1⟩, fun a ha b hb => ?_⟩
  rcases List.mem_cons.1 hb with rfl | hb
  · exact hl a ha
  · exact h.2.2 a ha b hb

theorem add_good {ps rs : List (Int × Int)} {p : Int} (hp0 : 0 ≤ p) (hp : p ≤ 9223372036854775807) (h : Good ps) (hr : AddForm ps p rs) : Good rs := by
  rcases hr with ⟨l, r, rfl, h1, h2, rfl⟩ | ⟨l, r, y, rfl, rfl⟩
  · refine ⟨srt_put h.1 h1 h2 _, fun q hq => ?_⟩
    simp only [List.mem_append, List.mem_cons] at hq
    rcases hq with hq | rfl | hq
    · exact h.2 q (by simp [hq])
    · exact ⟨by simp only; omega, by simp only; omega, bit_ne p, bit_u64 p⟩
    · exact h.2 q (by simp [hq])
  · refine ⟨(srt_mid h.1).2.2.2 _, fun q hq => ?_⟩
    have hy := h.2 (p / 64, y) (by simp)
    simp only [List.mem_append, List.mem_cons] at hq
    rcases hq with hq | rfl | hq
    · exact h.2 q (by simp [hq])
    · exact ⟨hy.1, hy.2.1, orr_ne hy.2.2.2 (bit_u64 p) (bit_ne p), orr_u64 hy.2.2.2 (bit_u64 p)⟩
    · exact h.2 q (by simp [hq])

theorem add_one {ps rs : List (Int × Int)} {p x y : Int} (h : Good ps) (hr : AddForm ps p rs) (hm : (x, y) ∈ rs) : y = orr (get (ps.map Prod.fst) (ps.map Prod.snd) x) (mask p x) := by
  have far : ∀ q ∈ ps, q.1 ≠ p / 64 → q.2 = orr (get (ps.map Prod.fst) (ps.map Prod.snd) q.1) (mask p q.1) := by
    intro q hq hne
    rw [get_mem h.1 (show (q.1, q.2) ∈ ps from hq), mask, if_neg hne, orr_zero (h.2 q hq).2.2.2]
  rcases hr with ⟨l, r, rfl, h1, h2, rfl⟩ | ⟨l, r, y0, rfl, rfl⟩
  · simp only [List.mem_append, List.mem_cons] at hm
    rcases hm with hm | hm | hm
    · exact far (x, y) (by simp [hm]) (by have := h1 _ hm; simp only at this ⊢; omega)
    · obtain ⟨rfl, rfl⟩ : x = p / 64 ∧ y = bitOf p := by simpa using hm
      rw [get_no, mask, if_pos rfl, zero_orr (bit_u64 p)]
      intro q hq
      rcases List.mem_append.1 hq with hq | hq
      · have := h1 q hq; omega
      · have := h2 q hq; omega
    · exact far (x, y) (by simp [hm]) (by have := h2 _ hm; simp only at this ⊢; omega)
  · have hs := srt_mid h.1
    simp only [List.mem_append, List.mem_cons] at hm
    rcases hm with hm | hm | hm
    · exact far (x, y) (by simp [hm]) (by have := hs.1 _ hm; simp only at this ⊢; omega)
    · obtain ⟨rfl, rfl⟩ : x = p / 64 ∧ y = orr y0 (bitOf p) := by simpa using hm
      rw [get_mem h.1 (show (p / 64, y0) ∈ _ by simp), mask, if_pos rfl]
    · exact far (x, y) (by simp [hm]) (by have := hs.2.1 _ hm; simp only at this ⊢; omega)

theorem add_three {ps rs : List (Int × Int)} {p : Int} (hp0 : 0 ≤ p) (hp : p ≤ 9223372036854775807) (h : Good ps) (hr : AddForm ps p rs) :
    get (rs.map Prod.fst) (rs.map Prod.snd) (p / 64) = orr (get (ps.map Prod.fst) (ps.map Prod.snd) (p / 64)) (mask p (p / 64)) := by
  have hg := add_good hp0 hp h hr
  obtain ⟨y, hy⟩ : ∃ y, (p / 64, y) ∈ rs := by
    rcases hr with ⟨l, r, rfl, h1, h2, rfl⟩ | ⟨l, r, y0, rfl, rfl⟩
    · exact ⟨bitOf p, by simp⟩
    · exact ⟨orr y0 (bitOf p), by simp⟩
  rw [get_mem hg.1 hy]
  exact add_one h hr hy

theorem add_two {ps rs : List (Int × Int)} {p x y : Int} (hp0 : 0 ≤ p) (hp : p ≤ 9223372036854775807) (h : Good ps) (hr : AddForm ps p rs) (hm : (x, y) ∈ ps) : get (rs.map Prod.fst) (rs.map Prod.snd) x = orr y (mask p x) := by
  by_cases hx : x = p / 64
  · subst hx
    rw [add_three hp0 hp h hr, get_mem h.1 hm]
  · have hg := add_good hp0 hp h hr
    have hmr : (x, y) ∈ rs := by
      rcases hr with ⟨l, r, rfl, h1, h2, rfl⟩ | ⟨l, r, y0, rfl, rfl⟩
      · rcases List.mem_append.1 hm with hm | hm <;> simp [hm]
      · simp only [List.mem_append, List.mem_cons] at hm ⊢
        rcases hm with hm | hm | hm
        · exact Or.inl hm
        · exact absurd (by simpa using congrArg Prod.fst hm) hx
        · exact Or.inr (Or.inr hm)
    rw [get_mem hg.1 hmr, mask, if_neg hx, orr_zero (h.2 (x, y) hm).2.2.2]

/-- The place of a word is one. -/
theorem split_one : ∀ {l l' r r' : List (Int × Int)} {t y y' : Int}, Srt (l ++ (t, y) :: r) → l ++ (t, y) :: r = l' ++ (t, y') :: r' → l = l' ∧ y = y' ∧ r = r'
  | [], [], r, r', t, y, y', _, h => by simp at h; exact ⟨rfl, h.1, h.2⟩
  | [], b :: l', r, r', t, y, y', hs, h => by
    exfalso
    simp only [List.nil_append, List.cons_append, List.cons.injEq] at h
    obtain ⟨rfl, rfl⟩ := h
    have := (srt_mid (l := []) hs).2.1 (t, y') (by simp)
    simp at this
  | a :: l, [], r, r', t, y, y', hs, h => by
    exfalso
    simp only [List.nil_append, List.cons_append, List.cons.injEq] at h
    obtain ⟨rfl, rfl⟩ := h
    have := (srt_mid hs).1 (t, y') (by simp)
    simp at this
  | a :: l, b :: l', r, r', t, y, y', hs, h => by
    simp only [List.cons_append, List.cons.injEq] at h
    obtain ⟨rfl, h⟩ := h
    obtain ⟨rfl, h2, h3⟩ := split_one (List.Pairwise.of_cons (show List.Pairwise _ (a :: (l ++ (t, y) :: r)) from hs)) h
    exact ⟨rfl, h2, h3⟩
/-- The place at which a word that is absent would stand is one. -/
theorem split_two : ∀ {l l' r r' : List (Int × Int)} {t : Int}, (∀ q ∈ l, q.1 < t) → (∀ q ∈ r, t < q.1) → (∀ q ∈ l', q.1 < t) → (∀ q ∈ r', t < q.1) → l ++ r = l' ++ r' → l = l' ∧ r = r'
  | [], [], r, r', t, _, _, _, _, h => ⟨rfl, by simpa using h⟩
  | [], b :: l', r, r', t, _, h2, h3, _, h => by
    exfalso
    simp only [List.nil_append] at h
    have e1 := h2 b (by rw [h]; simp)
    have e2 := h3 b (by simp)
    omega
  | a :: l, [], r, r', t, h1, _, _, h4, h => by
    exfalso
    simp only [List.nil_append] at h
    have e1 := h4 a (by rw [← h]; simp)
    have e2 := h1 a (by simp)
    omega
  | a :: l, b :: l', r, r', t, h1, h2, h3, h4, h => by
    simp only [List.cons_append, List.cons.injEq] at h
    obtain ⟨rfl, h⟩ := h
    obtain ⟨rfl, e⟩ := split_two (fun q hq => h1 q (by simp [hq])) h2 (fun q hq => h3 q (by simp [hq])) h4 h
    exact ⟨rfl, e⟩

/-- Added, then removed: the very same set. -/
theorem add_rem {ps us rs : List (Int × Int)} {p : Int} (hp0 : 0 ≤ p) (hp : p ≤ 9223372036854775807) (h : Good ps) (ha : AddForm ps p us) (hr : RemForm us p rs) (hno : andd (get (ps.map Prod.fst) (ps.map Prod.snd) (p / 64)) (bitOf p) = 0) : rs = ps := by
  have hg := add_good hp0 hp h ha
  rcases ha with ⟨l, r, rfl, h1, h2, rfl⟩ | ⟨l, r, y, rfl, rfl⟩
  · rcases hr with ⟨h0, _⟩ | ⟨l', r', y', e, hr⟩
    · exact absurd rfl (h0 (p / 64, bitOf p) (by simp))
    · obtain ⟨rfl, rfl, rfl⟩ := split_one hg.1 e
      rcases hr with ⟨_, rfl⟩ | ⟨hz, _⟩
      · rfl
      · exact absurd (clr_self (bit_u64 p)) hz
  · have hy := h.2 (p / 64, y) (by simp)
    rw [get_mem h.1 (show (p / 64, y) ∈ _ by simp)] at hno
    have hc := clr_orr hy.2.2.2 (bit_u64 p) hno
    rcases hr with ⟨h0, _⟩ | ⟨l', r', y', e, hr⟩
    · exact absurd rfl (h0 (p / 64, orr y (bitOf p)) (by simp))
    · obtain ⟨rfl, rfl, rfl⟩ := split_one hg.1 e
      rcases hr with ⟨hz, _⟩ | ⟨_, rfl⟩
      · rw [hc] at hz; exact absurd hz hy.2.2.1
      · rw [hc]

/-- Removed, then added: the very same set. -/
theorem rem_add {ps rs us : List (Int × Int)} {p : Int} (h : Good ps) (hr : RemForm ps p rs) (ha : AddForm rs p us) (hyes : andd (get (ps.map Prod.fst) (ps.map Prod.snd) (p / 64)) (bitOf p) ≠ 0) : us = ps := by
  have hg := rem_good h hr
  rcases hr with ⟨h0, rfl⟩ | ⟨l, r, y, rfl, hr⟩
  · rw [get_no h0] at hyes
    exfalso
    apply hyes
    obtain ⟨M, hM⟩ := u64_bv (bit_u64 p)
    rw [hM, zero_bv, andd_bv]; simp
  · have hy := h.2 (p / 64, y) (by simp)
    rw [get_mem h.1 (show (p / 64, y) ∈ _ by simp)] at hyes
    have hc := orr_clr p hy.2.2.2 hyes
    have hs := srt_mid h.1
    rcases hr with ⟨hz, rfl⟩ | ⟨hz, rfl⟩
    · rcases ha with ⟨l', r', e, h1, h2, rfl⟩ | ⟨l', r', y', e, _⟩
      · obtain ⟨rfl, rfl⟩ := split_two hs.1 hs.2.1 h1 h2 e
        rw [hz, zero_orr (bit_u64 p)] at hc
        rw [hc]
      · exfalso
        have : (p / 64, y') ∈ l ++ r := by rw [e]; simp
        rcases List.mem_append.1 this with hq | hq
        · have := hs.1 _ hq; simp at this
        · have := hs.2.1 _ hq; simp at this
    · rcases ha with ⟨l', r', e, h1, h2, _⟩ | ⟨l', r', y', e, rfl⟩
      · exfalso
        have : (p / 64, clr y (bitOf p)) ∈ l' ++ r' := by rw [← e]; simp
        rcases List.mem_append.1 this with hq | hq
        · have := h1 _ hq; simp at this
        · have := h2 _ hq; simp at this
      · obtain ⟨rfl, rfl, rfl⟩ := split_one hg.1 e
        rw [hc]
end Go.Proofs.Qxb6602705a
