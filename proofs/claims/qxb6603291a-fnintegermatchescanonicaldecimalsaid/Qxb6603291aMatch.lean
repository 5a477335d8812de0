import Derived.Test.Qxb6603291aText
import Derived.Test.Qxb6603291aZint
namespace Go.Proofs.Qxb6603291a
open Go.RowKit
set_option linter.unusedVariables false

/-! ### The plain law -/
theorem seg_cons {D : List Int} {j en : Nat} {v : Int} (h : j < en) (hv : D[j]? = some v) : seg D j en = v :: seg D (j + 1) en := by
  unfold seg
  obtain ⟨h1, rfl⟩ := List.getElem?_eq_some_iff.1 hv
  rw [List.drop_eq_getElem_cons h1, show en - j = (en - (j + 1)) + 1 by omega, List.take_succ_cons]

/-- Leading noughts weigh nothing. -/
theorem drop_zeros {D : List Int} {S j en : Nat} (h1 : S ≤ j) (h2 : j ≤ en) (hz : ∀ i, S ≤ i → i < j → D[i]? = some 48) : dval (seg D S en) = dval (seg D j en) := by
  obtain ⟨d, rfl⟩ := Nat.le.dest h1
  clear h1
  induction d generalizing S with
  | zero => rfl
  | succ d ih =>
    rw [seg_cons (show S < en by omega) (hz S (Nat.le_refl _) (by omega)), dval_cons]
    have := ih (S := S + 1) (by omega) (fun i hi1 hi2 => hz i (by omega) (by omega))
    rw [show S + 1 + d = S + (d + 1) by omega] at this
    rw [this]; simp

theorem canon_tail {D : List Int} {S j en : Nat} {v : Int} (h1 : S ≤ j) (h2 : j < en) (hl : en ≤ D.length) (hd : ∀ i, S ≤ i → i < en → ∃ v, D[i]? = some v ∧ Dig v) (hv : D[j]? = some v) (hx : j + 1 = en ∨ v ≠ 48) : Canon (seg D j en) := by
  refine ⟨?_, seg_mem fun i hi1 hi2 => hd i (by omega) hi2, ?_⟩
  · rw [seg_cons h2 hv]; simp
  · rcases hx with hx | hx
    · exact Or.inl (by rw [seg_len hl]; omega)
    · refine Or.inr ?_
      rw [seg_cons h2 hv]
      simpa using hx

/-- The sign that the law itself lays ahead. -/
def lawSign (neg : Bool) (b : Bool) : List Int := if neg && !b then [45] else []
theorem match_plain {D ds : List Int} {S j en : Nat} {v : Int} (neg : Bool) (h1 : S ≤ j) (h2 : j < en) (hl : en ≤ D.length) (hd : ∀ i, S ≤ i → i < en → ∃ v, D[i]? = some v ∧ Dig v) (hz : ∀ i, S ≤ i → i < j → D[i]? = some 48)
    (hv : D[j]? = some v) (hx : j + 1 = en ∨ v ≠ 48) (hc : Canon ds) (hN : dval ds = ((numOf neg (seg D S en)).natAbs : Int)) :
    sign (numOf neg (seg D S en)) ++ ds = lawSign neg (decide (en - j = 1 ∧ v = 48)) ++ seg D j en := by
  have hct := canon_tail h1 h2 hl hd hv hx
  have hdz := drop_zeros h1 (Nat.le_of_lt h2) hz
  have hb := dval_bd (seg D j en) hct.2.1
  have hds : ds = seg D j en := by
    refine canon_one hc hct ?_
    rw [hN, hdz.symm]
    rw [← hdz] at hb
    unfold numOf
    cases neg
    · simp only [Bool.false_eq_true, if_false]; omega
    · simp only [if_true]; omega
  rw [hds]
  congr 1
  have hzero : dval (seg D j en) = 0 ↔ (en - j = 1 ∧ v = 48) := by
    constructor
    · intro h0
      by_cases hlen : 2 ≤ (seg D j en).length
      · have := canon_low hct hlen
        have hp := pow_pos ((seg D j en).length - 1)
        omega
      · rw [seg_len hl] at hlen
        have e1 : en - j = 1 := by omega
        have e2 : seg D j en = [v] := by
          rw [seg_cons h2 hv, show j + 1 = en by omega, seg_nil]
        rw [e2] at h0
        simp [dval] at h0
        exact ⟨e1, by omega⟩
    · rintro ⟨e1, rfl⟩
      have e2 : seg D j en = [48] := by
        rw [seg_cons h2 hv, show j + 1 = en by omega, seg_nil]
      rw [e2]; rfl
  unfold sign lawSign numOf
  cases neg
  · simp only [Bool.false_eq_true, if_false, Bool.false_and]
    rw [if_neg (by rw [hdz]; omega)]
  · simp only [if_true, Bool.true_and]
    by_cases hb0 : en - j = 1 ∧ v = 48
    · have := hzero.2 hb0
      rw [if_neg (by rw [hdz, this]; omega)]
      simp [hb0]
    · have hne : ¬ dval (seg D j en) = 0 := fun h => hb0 (hzero.1 h)
      rw [if_pos (by rw [hdz]; omega)]
      simp [hb0]

/-! ### The walks besides -/
/-- The copying function, its room told. -/
def ClonedC (zs : List Int) (m : Nat) (w : World) (e : Ending) (w' : World) : Prop := ∃ a c, e = .returned (.slice a m c) ∧ m ≤ c ∧ c ≤ 1048576 ∧ Ints .u8 w' a zs ∧ Below w.heap.size w w'
theorem clone_c (a : Option Addr) (c : Nat) (zs : List Int) (w : World) (hl : zs.length ≤ 1048576) (h : Ints .u8 w a zs) (hnil : a = none → zs = []) :
    Calls Try.prog 9 #[.slice a zs.length c] w fun e w' => ClonedC zs zs.length w e w' := by
  have q22 : ∀ (w : World) (a : Option Addr) (n c n' c' : Nat), (binOp .eql 22 (.slice a n c) (.slice none n' c')).run Try.prog w = .ok (.bool a.isNone) w := fun w a n c n' c' => Lib.run_eql_slice_nil w _ _ a n c n' c' Try.underlying22
  cases a with
  | none =>
    have H : Hid _ := hnil rfl
    clear hnil h
    go_enter Try.func9, Try.ntmps9
    go_wp2
    go_ret
    exact ⟨none, 0, by simp [H.out], by rw [H.out]; exact Nat.le_refl _, by omega, by rw [H.out]; exact ⟨0, 0, fun h => absurd rfl h, fun i x hx => by simp at hx⟩, Below.refl _ _⟩
  | some x =>
    clear hnil
    obtain ⟨i0, hi, hz0, hz1, hz2⟩ := info_parts Try.info5
    go_enter Try.func9, Try.ntmps9
    go_wp2_with (at_make; refine wpList_make_full _ rfl (.tmp 8) (.tmp 8) 22 rfl w.heap.size 5 i0 (.int .u8 0) 1 Try.underlying22 hi hz0 hz1 .i64 .i64 _ _ zs.length rfl rfl rfl rfl (by rw [hz2]; omega) (by unfold maxLen; omega) (Nat.le_refl _) ?_; intro w1 hown hgr)
    have F0 : Filled .u8 w1 w.heap.size 5 zs.length 0 zs := Filled.made zs hown
    have B0 : Below w.heap.size w w1 := (Below.refl _ _).grown hgr (Nat.le_refl _) (fun k hk => by cases hk)
    clear hown hgr
    go_loopw [4] (fun i wr => ∃ k : Nat, k ≤ zs.length ∧ i = .int .i64 k ∧ Filled .u8 wr w.heap.size 5 zs.length k zs ∧ Below w.heap.size w wr) (fun i _ => zs.length - (intOf i).toNat)
    case atStart => exact ⟨0, Nat.zero_le _, rfl, F0, B0⟩
    case round =>
      obtain ⟨k, hk, rfl, hF, hb⟩ := hrel
      clear F0 B0
      by_cases hlt : k < zs.length
      · obtain ⟨b0, o0, e0, g0⟩ := h.below hb
        obtain ⟨v, hv⟩ := at_some hlt
        have c0 := g0 k v hv
        have e := e0 (ne_nil hlt)
        simp only [Option.some.injEq] at e
        subst e
        obtain ⟨u, c1⟩ := hF.cell hlt
        have c2 := hF.frozen k
        have V : Hid _ := hv
        clear hv e0 g0
        go_wp2
        go_roundw
        case rel => exact ⟨k + 1, by omega, by go_num, hF.step hlt V.out, hb.setCell (Nat.le_refl _) _⟩
        case measure => simp [intOf]; omega
      · go_wp2
        go_ret
        obtain rfl : k = zs.length := by omega
        exact ⟨_, _, rfl, Nat.le_refl _, hl, hF.ints (Nat.le_refl _), hb⟩

theorem clone_cn (a : Option Addr) (c : Nat) (zs : List Int) (m : Nat) (w : World) (hm : zs.length = m) (hl : m ≤ 1048576) (h : Ints .u8 w a zs) (hnil : a = none → zs = []) :
    Calls Try.prog 9 #[.slice a m c] w fun e w' => ClonedC zs m w e w' := by
  subst hm; exact clone_c a c zs w hl h hnil
theorem zint_m (a : Option Addr) (c : Nat) (zs : List Int) (m pos : Nat) (z : Bool) (w : World) (hm : zs.length = m) (hl : m ≤ 2097152) (hpos : pos ≤ 9223372036854775807) (h : Ints .u8 w a zs) (hz : ∀ v ∈ zs, 0 ≤ v ∧ v ≤ 255) :
    Calls Try.prog 10 #[.slice a m c, .int .i64 pos, .bool z] w fun e w' => ZSays zs pos z w e w' := by
  subst hm; exact zint_any a c zs pos z w hl hpos h hz

theorem digit_any (v : Int) (w : World) : Calls Try.prog 11 #[.int .u8 v] w fun e w' => e = .returned (.bool (isDig v)) ∧ w' = w := by
  by_cases h : 48 ≤ v
  · by_cases h2 : v ≤ 57
    · have A : Hid (isDig v = true) := isDig_yes ⟨h, h2⟩
      have hd : decide (v ≤ 57) = true := decide_eq_true h2
      go_enter Try.func11, Try.ntmps11
      go_wp2
      go_ret
      exact ⟨by rw [A.out]; rfl, rfl⟩
    · have A : Hid (isDig v = false) := isDig_no (fun h => h2 h.2)
      have hd : decide (v ≤ 57) = false := decide_eq_false h2
      go_enter Try.func11, Try.ntmps11
      go_wp2
      go_ret
      exact ⟨by rw [A.out]; rfl, rfl⟩
  · have A : Hid (isDig v = false) := isDig_no (fun x => h x.1)
    have hd : decide (48 ≤ v) = false := decide_eq_false h
    go_enter Try.func11, Try.ntmps11
    go_wp2
    go_ret
    exact ⟨by rw [A.out]; rfl, rfl⟩

/-- Two slices that hold one list are found equal. -/
theorem eqb_any (a0 : Option Addr) (c0 : Nat) (a1 : Option Addr) (c1 : Nat) (xs : List Int) (m : Nat) (w : World) (hm : xs.length = m) (hl : m ≤ 1048576) (h0 : Ints .u8 w a0 xs) (h1 : Ints .u8 w a1 xs) :
    Calls Try.prog 13 #[.slice a0 m c0, .slice a1 m c1] w fun e w' => Done w e w' := by
  have HM : Hid (xs.length = m) := hm
  clear hm
  go_enter Try.func13, Try.ntmps13
  go_wp2
  go_loopw [5] (fun i wr => ∃ k : Nat, k ≤ m ∧ i = .int .i64 k ∧ Below w.heap.size w wr) (fun i _ => m - (intOf i).toNat)
  case atStart => exact ⟨0, Nat.zero_le _, rfl, Below.refl _ _⟩
  case round =>
    obtain ⟨k, hk, rfl, hb⟩ := hrel
    by_cases hlt : k < m
    · have hlx : k < xs.length := by rw [HM.out]; exact hlt
      obtain ⟨b0, o0, q0, g0⟩ := h0.below hb
      obtain ⟨b1, o1, q1, g1⟩ := h1.below hb
      obtain ⟨v, hv⟩ := at_some hlx
      have z0 := g0 k v hv
      have z1 := g1 k v hv
      obtain rfl := q0 (ne_nil hlx)
      obtain rfl := q1 (ne_nil hlx)
      clear hv g0 g1 q0 q1 h0 h1 hlx
      have hvv : (v != v) = false := by simp
      go_wp2
      go_quiet (fail)
      go_wp2
      go_roundw
      case rel => exact ⟨k + 1, by omega, by go_num, below_drewN hb _⟩
      case measure => simp [intOf]; omega
    · go_wp2
      go_ret
      exact ⟨rfl, hb⟩

theorem zzbz8_yes (a0 : Option Addr) (n0 c0 : Nat) (p : Int) (z : Bool) (w : World) (h0 : n0 ≤ 1048576) :
    Calls Try.prog 8 #[.slice a0 n0 c0, .int .i64 p, .bool z] w fun e w' => e = .returned (.bool true) ∧ w' = w := by
  go_enter Try.func8, Try.ntmps8
  go_wp2
  go_ret
  exact ⟨rfl, rfl⟩
theorem zzbz8_no (a0 : Option Addr) (n0 c0 : Nat) (p : Int) (z : Bool) (w : World) (h0 : 1048576 < n0) (hm0 : n0 ≤ maxLen) :
    Calls Try.prog 8 #[.slice a0 n0 c0, .int .i64 p, .bool z] w fun e w' => e = .returned (.bool false) ∧ w' = w := by
  unfold maxLen at hm0
  go_enter Try.func8, Try.ntmps8
  go_wp2
  go_ret
  exact ⟨rfl, rfl⟩
end Go.Proofs.Qxb6603291a
