import Derived.Test.Qxb6602705aT7
import Derived.Laws.Bits64
namespace Go.Proofs.Qxb6602705a
open Go.RowKit
set_option linter.unusedVariables false

/-! ### Bits -/
def andd (y m : Int) : Int := bits BinOp.and IntKind.u64 y m
def U64 (y : Int) : Prop := 0 ≤ y ∧ y < 18446744073709551616
theorem u64_bv {y : Int} (h : U64 y) : ∃ Y : BitVec 64, y = (Y.toNat : Int) := by
  obtain ⟨A, rfl⟩ := Int.eq_ofNat_of_zero_le h.1
  refine ⟨BitVec.ofNat 64 A, ?_⟩
  have := h.2
  rw [BitVec.toNat_ofNat, Nat.mod_eq_of_lt (by omega)]
theorem bv_u64 (Y : BitVec 64) : U64 (Y.toNat : Int) := by
  have := Y.isLt
  constructor
  · omega
  · have e : (2 : Nat) ^ 64 = 18446744073709551616 := by decide
    omega
theorem bv_of (Y : BitVec 64) : BitVec.ofInt 64 (Y.toNat : Int) = Y := by
  rw [BitVec.ofInt_natCast, BitVec.ofNat_toNat]; simp
theorem bv_wrap (Y : BitVec 64) : IntKind.u64.wrap (Y.toNat : Int) = (Y.toNat : Int) := by
  rw [IntKind.wrap_u64]
  have := bv_u64 Y
  exact Int.emod_eq_of_lt this.1 this.2
theorem clr_bv (Y M : BitVec 64) : clr Y.toNat M.toNat = ((Y &&& ~~~M).toNat : Int) := by
  show IntKind.u64.wrap ((BitVec.ofInt 64 (Y.toNat : Int) &&& ~~~BitVec.ofInt 64 (M.toNat : Int)).toNat : Int) = _
  rw [bv_of, bv_of, bv_wrap]
theorem orr_bv (Y M : BitVec 64) : orr Y.toNat M.toNat = ((Y ||| M).toNat : Int) := by
  show IntKind.u64.wrap ((BitVec.ofInt 64 (Y.toNat : Int) ||| BitVec.ofInt 64 (M.toNat : Int)).toNat : Int) = _
  rw [bv_of, bv_of, bv_wrap]
theorem andd_bv (Y M : BitVec 64) : andd Y.toNat M.toNat = ((Y &&& M).toNat : Int) := by
  show IntKind.u64.wrap ((BitVec.ofInt 64 (Y.toNat : Int) &&& BitVec.ofInt 64 (M.toNat : Int)).toNat : Int) = _
  rw [bv_of, bv_of, bv_wrap]
theorem bv_zero (Y : BitVec 64) : ((Y.toNat : Int) = 0) ↔ Y = 0#64 := by
  constructor
  · intro h; apply BitVec.eq_of_toNat_eq; simp; omega
  · intro h; subst h; rfl
theorem zero_bv : (0 : Int) = ((0#64).toNat : Int) := rfl

theorem bit_bv (p : Int) : ∃ i, i < 64 ∧ bitOf p = ((BitVec.twoPow 64 i).toNat : Int) := by
  refine ⟨(p % 64).toNat, by omega, ?_⟩
  rw [BitVec.toNat_twoPow]
  unfold bitOf
  rw [IntKind.wrap_u64, Int.natCast_emod, Int.natCast_pow]
  rfl
theorem bit_u64 (p : Int) : U64 (bitOf p) := by obtain ⟨i, _, h⟩ := bit_bv p; rw [h]; exact bv_u64 _
theorem twoPow_ne (i : Nat) (h : i < 64) : BitVec.twoPow 64 i ≠ 0#64 := by
  intro e
  have := congrArg (fun x => x.getLsbD i) e
  simp [h] at this
theorem bit_ne (p : Int) : bitOf p ≠ 0 := by
  obtain ⟨i, hi, h⟩ := bit_bv p
  rw [h, Ne, bv_zero]; exact twoPow_ne i hi

theorem clr_u64 {y m : Int} (hy : U64 y) (hm : U64 m) : U64 (clr y m) := by
  obtain ⟨Y, rfl⟩ := u64_bv hy; obtain ⟨M, rfl⟩ := u64_bv hm; rw [clr_bv]; exact bv_u64 _
theorem orr_u64 {y m : Int} (hy : U64 y) (hm : U64 m) : U64 (orr y m) := by
  obtain ⟨Y, rfl⟩ := u64_bv hy; obtain ⟨M, rfl⟩ := u64_bv hm; rw [orr_bv]; exact bv_u64 _
theorem clr_zero {y : Int} (hy : U64 y) : clr y 0 = y := by
  obtain ⟨Y, rfl⟩ := u64_bv hy; rw [zero_bv, clr_bv]
  rw [show (~~~(0#64)) = BitVec.allOnes 64 by decide, BitVec.and_allOnes]
theorem orr_zero {y : Int} (hy : U64 y) : orr y 0 = y := by
  obtain ⟨Y, rfl⟩ := u64_bv hy; rw [zero_bv, orr_bv]; simp
theorem zero_orr {y : Int} (hy : U64 y) : orr 0 y = y := by
  obtain ⟨Y, rfl⟩ := u64_bv hy; rw [zero_bv, orr_bv]; simp
theorem clr_self {y : Int} (hy : U64 y) : clr y y = 0 := by
  obtain ⟨Y, rfl⟩ := u64_bv hy; rw [clr_bv]; simp
theorem orr_ne {y m : Int} (hy : U64 y) (hm : U64 m) (h : m ≠ 0) : orr y m ≠ 0 := by
  obtain ⟨Y, rfl⟩ := u64_bv hy; obtain ⟨M, rfl⟩ := u64_bv hm
  rw [orr_bv, Ne, bv_zero]
  rw [Ne, bv_zero] at h
  intro e
  apply h
  apply BitVec.eq_of_getLsbD_eq
  intro i hi
  have := congrArg (fun x => x.getLsbD i) e
  simp at this
  simp [this.2]
theorem clr_orr {y m : Int} (hy : U64 y) (hm : U64 m) (h : andd y m = 0) : clr (orr y m) m = y := by
  obtain ⟨Y, rfl⟩ := u64_bv hy; obtain ⟨M, rfl⟩ := u64_bv hm
  rw [andd_bv, bv_zero] at h
  rw [orr_bv, clr_bv]
  congr 2
  apply BitVec.eq_of_getLsbD_eq
  intro i hi
  have := congrArg (fun x => x.getLsbD i) h
  simp at this
  simp [hi]
  cases hY : Y.getLsbD i <;> cases hM : M.getLsbD i <;> simp_all
theorem orr_clr {y : Int} (p : Int) (hy : U64 y) (h : andd y (bitOf p) ≠ 0) : orr (clr y (bitOf p)) (bitOf p) = y := by
  obtain ⟨Y, rfl⟩ := u64_bv hy; obtain ⟨i, hi, hm⟩ := bit_bv p
  rw [hm] at h ⊢
  rw [andd_bv, Ne, bv_zero, BitVec.and_twoPow] at h
  rw [clr_bv, orr_bv]
  congr 2
  apply BitVec.eq_of_getLsbD_eq
  intro j hj
  cases hY : Y.getLsbD i
  · simp [hY] at h
  · rw [BitVec.getLsbD_or, BitVec.getLsbD_and, BitVec.getLsbD_not, BitVec.getLsbD_twoPow]
    by_cases e : i = j
    · subst e; simp [hY, hj]
    · simp [e, hj]

/-! ### Lists of pairs -/
def mask (p x : Int) : Int := if x = p / 64 then bitOf p else 0
def Srt (ps : List (Int × Int)) : Prop := ps.Pairwise fun a b => a.1 < b.1
def Fine (q : Int × Int) : Prop := 0 ≤ q.1 ∧ q.1 ≤ 9223372036854775807 ∧ q.2 ≠ 0 ∧ U64 q.2
def Good (ps : List (Int × Int)) : Prop := Srt ps ∧ ∀ q ∈ ps, Fine q

theorem good_rising {ps : List (Int × Int)} (h : Good ps) : Rising ps := by
  refine ⟨fun i q hq => ?_, fun i j a b hij ha hb => ?_⟩
  · have := h.2 q (List.mem_of_getElem? hq)
    exact ⟨this.1, this.2.1⟩
  · obtain ⟨h1, rfl⟩ := List.getElem?_eq_some_iff.1 ha
    obtain ⟨h2, rfl⟩ := List.getElem?_eq_some_iff.1 hb
    exact List.pairwise_iff_getElem.1 h.1 i j h1 h2 hij

theorem chain_pairwise {ws : List Int} (h : ∀ (i : Nat) (u v : Int), ws[i]? = some u → ws[i + 1]? = some v → u < v) : ws.Pairwise (· < ·) := by
  rw [List.pairwise_iff_getElem]
  intro i j hi hj hij
  obtain ⟨d, rfl⟩ : ∃ d, j = i + 1 + d := ⟨j - (i + 1), by omega⟩
  clear hij
  induction d with
  | zero => exact h i _ _ (by simp [hi]) (by simp [hj])
  | succ d ih =>
    have hj' : i + 1 + d < ws.length := by omega
    have h1 := ih hj'
    have h2 := h (i + 1 + d) ws[i + 1 + d] ws[i + 1 + (d + 1)] (by simp [hj']) (by rw [show i + 1 + d + 1 = i + 1 + (d + 1) by omega]; simp [hj])
    omega

theorem wf_good {ws bs : List Int} (h : WF ws bs) (hw : ∀ v ∈ ws, v ≤ 9223372036854775807) (hb : ∀ y ∈ bs, U64 y) : Good (ws.zip bs) := by
  have hp : ws.Pairwise (· < ·) := by
    apply chain_pairwise
    intro i u v hu hv
    obtain ⟨v', y, h1, h2, h3, h4, h5⟩ := h.2 (i + 1) (List.getElem?_eq_some_iff.1 hv).1
    rw [hv] at h1
    obtain rfl : v = v' := by simpa using h1
    exact h5 (Nat.succ_pos _) u (by simpa using hu)
  refine ⟨?_, fun q hq => ?_⟩
  · have e : (ws.zip bs).map Prod.fst = ws := List.map_fst_zip (by have := h.1; omega)
    rw [← e, List.pairwise_map] at hp
    exact hp
  · obtain ⟨i, hi, rfl⟩ := List.getElem_of_mem hq
    have hi' : i < ws.length := by simp at hi; omega
    have hi2 : i < bs.length := by have := h.1; omega
    obtain ⟨v, y, h1, h2, h3, h4, h5⟩ := h.2 i hi'
    simp only [hi', hi2, List.getElem?_eq_getElem, Option.some.injEq] at h1 h2
    simp only [List.getElem_zip]
    refine ⟨by simp only; omega, hw _ (List.getElem_mem _), by simp only; rw [h2]; exact h4, hb _ (List.getElem_mem _)⟩

theorem good_wf {ps : List (Int × Int)} (h : Good ps) : WF (ps.map Prod.fst) (ps.map Prod.snd) := by
  refine ⟨by simp, fun i hi => ?_⟩
  simp only [List.length_map] at hi
  have hm := h.2 ps[i] (List.getElem_mem _)
  refine ⟨ps[i].1, ps[i].2, by simp [hi], by simp [hi], hm.1, hm.2.2.1, fun h0 u hu => ?_⟩
  have hi1 : i - 1 < ps.length := by omega
  simp only [List.getElem?_map, hi1, List.getElem?_eq_getElem, Option.map_some, Option.some.injEq] at hu
  subst hu
  exact List.pairwise_iff_getElem.1 h.1 (i - 1) i hi1 hi (by omega)

theorem get_mem {ps : List (Int × Int)} (h : Srt ps) {x y : Int} (hm : (x, y) ∈ ps) : get (ps.map Prod.fst) (ps.map Prod.snd) x = y := by
  induction ps with
  | nil => simp at hm
  | cons a r ih =>
    simp only [List.map_cons, get]
    have hs := List.pairwise_cons.1 h
    rcases List.mem_cons.1 hm with e | e
    · subst e; simp
    · have := hs.1 _ e
      rw [if_neg (by simp only at this; omega)]
      exact ih hs.2 e
theorem get_no {ps : List (Int × Int)} {x : Int} (h : ∀ q ∈ ps, q.1 ≠ x) : get (ps.map Prod.fst) (ps.map Prod.snd) x = 0 := by
  induction ps with
  | nil => simp [get]
  | cons a r ih =>
    simp only [List.map_cons, get]
    rw [if_neg (h a (by simp))]
    exact ih fun q hq => h q (by simp [hq])

/-- A list parted at place k. -/
theorem cut_at {ps : List (Int × Int)} {k : Nat} {q : Int × Int} (h : ps[k]? = some q) : ps = ps.take k ++ q :: ps.drop (k + 1) := by
  obtain ⟨hk, rfl⟩ := List.getElem?_eq_some_iff.1 h
  rw [← List.drop_eq_getElem_cons hk, List.take_append_drop]
theorem set_at {ps : List (Int × Int)} {k : Nat} {q : Int × Int} (h : ps[k]? = some q) (q' : Int × Int) : ps.set k q' = ps.take k ++ q' :: ps.drop (k + 1) := by
  obtain ⟨hk, rfl⟩ := List.getElem?_eq_some_iff.1 h
  rw [List.set_eq_take_append_cons_drop, if_pos hk]
theorem erase_at (ps : List (Int × Int)) (k : Nat) : ps.eraseIdx k = ps.take k ++ ps.drop (k + 1) := List.eraseIdx_eq_take_drop_succ ps k

def RemForm (ps : List (Int × Int)) (p : Int) (rs : List (Int × Int)) : Prop :=
  ((∀ q ∈ ps, q.1 ≠ p / 64) ∧ rs = ps) ∨
  ∃ l r y, ps = l ++ (p / 64, y) :: r ∧ ((clr y (bitOf p) = 0 ∧ rs = l ++ r) ∨ (clr y (bitOf p) ≠ 0 ∧ rs = l ++ (p / 64, clr y (bitOf p)) :: r))

theorem rem_form {ps rs : List (Int × Int)} {p : Int} (hR : Rising ps) (h : RemRel ps p rs) : RemForm ps p rs := by
  obtain ⟨k, hk, ⟨hlo, hhi⟩, h | ⟨y, hy, h⟩⟩ := h
  · refine Or.inl ⟨fun q hq => ?_, h.2⟩
    obtain ⟨i, hi, rfl⟩ := List.getElem_of_mem hq
    by_cases hik : i < k
    · have := hlo i ps[i] hik (by simp [hi]); omega
    · intro e
      by_cases hik' : i = k
      · subst hik'; exact h.1 ⟨ps[i], by simp [hi], e⟩
      · have h1 := hR.2 k i ps[k] ps[i] (by omega) (by simp) (by simp [hi])
        have h2 := hhi k ps[k] (Nat.le_refl _) (by simp)
        omega
  · refine Or.inr ⟨ps.take k, ps.drop (k + 1), y, cut_at hy, ?_⟩
    rcases h with ⟨h1, h2⟩ | ⟨h1, h2⟩
    · exact Or.inl ⟨h1, by rw [h2, erase_at]⟩
    · exact Or.inr ⟨h1, by rw [h2, set_at hy]⟩

theorem srt_mid {l r : List (Int × Int)} {t y : Int} (h : Srt (l ++ (t, y) :: r)) : (∀ q ∈ l, q.1 < t) ∧ (∀ q ∈ r, t < q.1) ∧ Srt (l ++ r) ∧ ∀ y', Srt (l ++ (t, y') :: r) := by
  unfold Srt at h ⊢
  rw [List.pairwise_append, List.pairwise_cons] at h
  obtain ⟨h1, ⟨h2, h3⟩, h4⟩ := h
  refine ⟨fun q hq => h4 q hq (t, y) (by simp), h2, ?_, fun y' => ?_⟩
  · rw [List.pairwise_append]
    exact ⟨h1, h3, fun a ha b hb => h4 a ha b (by simp [hb])⟩
  · rw [List.pairwise_append, List.pairwise_cons]
    refine ⟨h1, ⟨h2, h3⟩, fun a ha b hb => ?_⟩
    rcases List.mem_cons.1 hb with rfl | hb
    · exact h4 a ha (t, y) (by simp)
    · exact h4 a ha b (by simp [hb])

theorem rem_good {ps rs : List (Int × Int)} {p : Int} (h : Good ps) (hr : RemForm ps p rs) : Good rs := by
  rcases hr with ⟨_, rfl⟩ | ⟨l, r, y, rfl, ⟨h1, rfl⟩ | ⟨h1, rfl⟩⟩
  · exact h
  · exact ⟨(srt_mid h.1).2.2.1, fun q hq => h.2 q (by simp at hq ⊢; rcases hq with hq | hq <;> simp [hq])⟩
  · refine ⟨(srt_mid h.1).2.2.2 _, fun q hq => ?_⟩
    have hy := h.2 (p / 64, y) (by simp)
    simp only [List.mem_append, List.mem_cons] at hq
    rcases hq with hq | rfl | hq
    · exact h.2 q (by simp [hq])
    · exact ⟨hy.1, hy.2.1, h1, clr_u64 hy.2.2.2 (bit_u64 p)⟩
    · exact h.2 q (by simp [hq])

theorem rem_one {ps rs : List (Int × Int)} {p x y : Int} (h : Good ps) (hr : RemForm ps p rs) (hm : (x, y) ∈ rs) : y = clr (get (ps.map Prod.fst) (ps.map Prod.snd) x) (mask p x) := by
  have far : ∀ q ∈ ps, q.1 ≠ p / 64 → q.2 = clr (get (ps.map Prod.fst) (ps.map Prod.snd) q.1) (mask p q.1) := by
    intro q hq hne
    rw [get_mem h.1 (show (q.1, q.2) ∈ ps from hq), mask, if_neg hne, clr_zero (h.2 q hq).2.2.2]
  rcases hr with ⟨h0, rfl⟩ | ⟨l, r, y0, rfl, h1⟩
  · exact far _ hm (h0 _ hm)
  · have hs := srt_mid h.1
    have hl : ∀ q ∈ l, q.1 ≠ p / 64 := fun q hq => by have := hs.1 q hq; omega
    have hr' : ∀ q ∈ r, q.1 ≠ p / 64 := fun q hq => by have := hs.2.1 q hq; omega
    rcases h1 with ⟨_, rfl⟩ | ⟨_, rfl⟩
    · rcases List.mem_append.1 hm with hm | hm
      · exact far _ (by simp [hm]) (hl _ hm)
      · exact far _ (by simp [hm]) (hr' _ hm)
    · simp only [List.mem_append, List.mem_cons] at hm
      rcases hm with hm | hm | hm
      · exact far _ (by simp [hm]) (hl _ hm)
      · obtain ⟨rfl, rfl⟩ : x = p / 64 ∧ y = clr y0 (bitOf p) := by simpa using hm
        rw [get_mem h.1 (show (p / 64, y0) ∈ _ by simp), mask, if_pos rfl]
      · exact far _ (by simp [hm]) (hr' _ hm)

theorem rem_two {ps rs : List (Int × Int)} {p x y : Int} (h : Good ps) (hr : RemForm ps p rs) (hm : (x, y) ∈ ps) : get (rs.map Prod.fst) (rs.map Prod.snd) x = clr y (mask p x) := by
  have hg := rem_good h hr
  have far : ∀ q ∈ ps, q.1 ≠ p / 64 → q ∈ rs → get (rs.map Prod.fst) (rs.map Prod.snd) q.1 = clr q.2 (mask p q.1) := by
    intro q hq hne hqr
    rw [get_mem hg.1 (show (q.1, q.2) ∈ rs from hqr), mask, if_neg hne, clr_zero (h.2 q hq).2.2.2]
  rcases hr with ⟨h0, rfl⟩ | ⟨l, r, y0, rfl, h1⟩
  · exact far _ hm (h0 _ hm) hm
  · have hs := srt_mid h.1
    have hl : ∀ q ∈ l, q.1 ≠ p / 64 := fun q hq => by have := hs.1 q hq; omega
    have hr' : ∀ q ∈ r, q.1 ≠ p / 64 := fun q hq => by have := hs.2.1 q hq; omega
    have hm' := hm
    simp only [List.mem_append, List.mem_cons] at hm
    rcases hm with hm | hm | hm
    · refine far _ hm' (hl _ hm) ?_
      rcases h1 with ⟨_, rfl⟩ | ⟨_, rfl⟩ <;> simp [hm]
    · obtain ⟨rfl, rfl⟩ : x = p / 64 ∧ y = y0 := by simpa using hm
      rw [mask, if_pos rfl]
      rcases h1 with ⟨hz, rfl⟩ | ⟨_, rfl⟩
      · rw [get_no, hz]
        intro q hq
        rcases List.mem_append.1 hq with hq | hq
        · exact hl q hq
        · exact hr' q hq
      · exact get_mem hg.1 (by simp)
    · refine far _ hm' (hr' _ hm) ?_
      rcases h1 with ⟨_, rfl⟩ | ⟨_, rfl⟩ <;> simp [hm]
end Go.Proofs.Qxb6602705a
