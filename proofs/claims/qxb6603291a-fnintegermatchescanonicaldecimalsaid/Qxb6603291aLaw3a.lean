import Derived.Test.Qxb6603291aMatch
namespace Go.Proofs.Qxb6603291a
open Go.RowKit
set_option linter.unusedVariables false

theorem digit_k (v : Int) (w : World) : Calls Try.prog 11 #[.int .u8 v] w fun e w' => e = .returned (.bool (isDig v)) ∧ w = w' :=
  (digit_any v w).mono fun e w' h => ⟨h.1, h.2.symm⟩

set_option maxHeartbeats 1000000 in
theorem law3_out (a0 : Option Addr) (c0 : Nat) (D : List Int) (ld p : Nat) (z : Bool) (w : World) (hld : D.length = ld) (hs : ld ≤ 1048576) (hp : p ≤ 9223372036854775807) (h0 : Ints .u8 w a0 D) (n0 : a0 = none → D = []) (hD : ∀ v ∈ D, 0 ≤ v ∧ v ≤ 255) (hout : ld ≤ p) :
    Calls Try.prog 3 #[.slice a0 ld c0, .int .i64 p, .bool z] w fun e w' => Done w e w' := by
  have LD : Hid (D.length = ld) := hld
  have HD : Hid (∀ v ∈ D, 0 ≤ v ∧ v ≤ 255) := hD
  have N0 : Hid (a0 = none → D = []) := n0
  have H0 : Hid (Ints .u8 w a0 D) := h0
  have hd0 : decide ((1048576 : Int) < (ld : Int)) = false := decide_eq_false (by omega)
  have hd1 : decide ((p : Int) < 0) = false := decide_eq_false (by omega)
  have hzz : (z != z) = false := by simp
  have hd2 : decide ((p : Int) < (ld : Int)) = false := decide_eq_false (by omega)
  have NEG : Hid (∀ neg, NegIs neg D p → neg = false) := fun neg h => by
    cases neg with
    | false => rfl
    | true => have := h.1 rfl; rw [List.getElem?_eq_none (by rw [LD.out]; exact hout)] at this; simp at this
  clear hld hD n0 h0
  go_enter Try.func3, Try.ntmps3
  go_wp2_with fail
  refine (zzbz8_yes _ _ _ _ _ _ hs).mono ?_
  rintro e w' ⟨rfl, rfl⟩
  go_wp2_with fail
  refine (clone_cn _ _ _ _ _ LD.out hs H0.out N0.out).mono ?_
  rintro e wb ⟨x0, e0, rfl, he0, he1, i0, bb⟩
  go_wp2_with fail
  refine (zint_m _ _ D ld p z _ LD.out (by omega) hp i0 HD.out).mono ?_
  rintro e wc ⟨neg, en, hneg, hrun, hcase, bc⟩
  have i1 := i0.below bc
  have bbc : Below w'.heap.size w' wc := bb.trans (bc.mono bb.size)
  clear bb bc i0 H0 N0
  obtain rfl := NEG.out neg hneg
  have hen : en = p := by
    rcases Nat.lt_or_ge p en with hx | hx
    · obtain ⟨v, hv, _⟩ := hrun.2.1 p (Nat.le_refl _) hx
      rw [List.getElem?_eq_none (by rw [LD.out]; exact hout)] at hv
      simp at hv
    · have := hrun.1; simp only [startOf, Bool.false_eq_true, if_false] at this; omega
  subst hen
  rcases hcase with ⟨_, rfl⟩ | ⟨hgood, _⟩
  · clear hneg hrun
    go_wp2
    go_loop [13] (fun i => i = .int .i64 en) (fun _ => 0)
    case atStart => rfl
    case round =>
      obtain rfl := hrel
      go_wp2
      go_ret
      exact ⟨rfl, bbc⟩
  · exfalso; have := hgood.1; simp only [startOf, Bool.false_eq_true, if_false] at this; omega

set_option maxHeartbeats 4000000 in
theorem law3_pos (a0 : Option Addr) (c0 : Nat) (D : List Int) (ld p : Nat) (z : Bool) (w : World) (hld : D.length = ld) (hs : ld ≤ 1048576) (hp : p ≤ 9223372036854775807) (h0 : Ints .u8 w a0 D) (n0 : a0 = none → D = []) (hD : ∀ v ∈ D, 0 ≤ v ∧ v ≤ 255) (vp : Int) (hv : D[p]? = some vp) (hne : vp ≠ 45) :
    Calls Try.prog 3 #[.slice a0 ld c0, .int .i64 p, .bool z] w fun e w' => Done w e w' := by
  have LD : Hid (D.length = ld) := hld
  have HD : Hid (∀ v ∈ D, 0 ≤ v ∧ v ≤ 255) := hD
  have N0 : Hid (a0 = none → D = []) := n0
  have H0 : Hid (Ints .u8 w a0 D) := h0
  have hd0 : decide ((1048576 : Int) < (ld : Int)) = false := decide_eq_false (by omega)
  have hd1 : decide ((p : Int) < 0) = false := decide_eq_false (by omega)
  have hzz : (z != z) = false := by simp
  have hpl : p < ld := by rw [← hld]; exact (List.getElem?_eq_some_iff.1 hv).1
  have hvb : (vp == 45) = false := by simp [hne]
  have NEG : Hid (∀ neg, NegIs neg D p → neg = false) := fun neg h => by
    cases neg with
    | false => rfl
    | true => have := h.1 rfl; rw [hv] at this; simp at this; exact absurd this hne
  have VP : Hid (D[p]? = some vp) := hv
  clear hv hne
  clear hld hD n0 h0
  go_enter Try.func3, Try.ntmps3
  go_wp2_with fail
  refine (zzbz8_yes _ _ _ _ _ _ hs).mono ?_
  rintro e w' ⟨rfl, rfl⟩
  go_wp2_with fail
  refine (clone_cn _ _ _ _ _ LD.out hs H0.out N0.out).mono ?_
  rintro e wb ⟨x0, e0, rfl, he0, he1, i0, bb⟩
  go_wp2_with fail
  refine (zint_m _ _ D ld p z _ LD.out (by omega) hp i0 HD.out).mono ?_
  rintro e wc ⟨neg, en, hneg, hrun, hcase, bc⟩
  have i1 := i0.below bc
  have bbc : Below w'.heap.size w' wc := bb.trans (bc.mono bb.size)
  clear bb bc i0 H0 N0
  obtain ⟨b0, o0, q0, g0⟩ := i1
  obtain rfl := q0 (ne_nil (show p < D.length by rw [LD.out]; exact hpl))
  have z0 := g0 p _ VP.out
  have G0 : Hid (∀ i x, D[i]? = some x → wc.cell? ⟨b0, o0 + i, none⟩ = some (.int .u8 x)) := g0
  obtain rfl := NEG.out neg hneg
  have HRUN : Hid (Run D (p) en) := hrun
  clear g0 q0 hneg hrun
  rcases hcase with ⟨hbad, rfl⟩ | ⟨hgood, rfl⟩
  · have hbad : ¬ (1 ≤ en - (p) ∧ en - (p) ≤ 18) := hbad
    have hse : p ≤ en := HRUN.out.1
    go_wp2
    go_loop [13] (fun i => ∃ k : Nat, p ≤ k ∧ k ≤ ld ∧ i = .int .i64 k ∧ Hid (∀ i, p ≤ i → i < k → ∃ v, D[i]? = some v ∧ Dig v)) (fun i => ld - (intOf i).toNat)
    case atStart => exact ⟨p, Nat.le_refl _, by omega, by go_num, fun i h1 h2 => by omega⟩
    case round =>
      obtain ⟨k, hsk, hkl, rfl, hr⟩ := hrel
      by_cases hdig : ∃ u, D[k]? = some u ∧ Dig u
      · obtain ⟨u, hu, hdu⟩ := hdig
        have hlt : k < ld := by rw [← LD.out]; exact (List.getElem?_eq_some_iff.1 hu).1
        have y0 := G0.out k u hu
        have hdb := isDig_yes hdu
        have U : Hid (D[k]? = some u) := hu
        have DU : Hid (Dig u) := hdu
        clear hu hdu
        go_wp2_with (go_at_call 11; refine (digit_k _ _).mono ?_; rintro e w3 ⟨rfl, rfl⟩)
        go_round
        case rel => exact ⟨k + 1, by omega, by omega, by go_num, fun i h1 h2 => by
          by_cases e : i = k
          · subst e; exact ⟨u, U.out, DU.out⟩
          · exact hr.out i h1 (by omega)⟩
        case measure => simp [intOf]; omega
      · have hek : k = en := run_one ⟨hsk, hr.out, fun u hu hdu => hdig ⟨u, hu, hdu⟩⟩ HRUN.out
        have HX : ((k < ld ∧ ∃ u, wc.cell? ⟨b0, o0 + k, none⟩ = some (.int .u8 u) ∧ isDig u = false) ∨ ld ≤ k) := by
          by_cases hlt : k < ld
          · obtain ⟨u, hu⟩ := at_some (show k < D.length by rw [LD.out]; exact hlt)
            exact Or.inl ⟨hlt, u, G0.out k u hu, isDig_no (fun hdu => hdig ⟨u, hu, hdu⟩)⟩
          · exact Or.inr (by omega)
        clear hdig hr
        subst hek
        rcases (show k = p ∨ p + 18 < k by have := hbad; omega) with hks | hks
        · have hb0 : ((k : Int) - ((p : Int)) == 0) = true := by simp; omega
          have HKS : Hid (k = p) := hks
          clear hks hbad
          rcases HX with ⟨hlt, u, y0, hdb⟩ | hdl
          all_goals
            go_wp2_with (go_at_call 11; refine (digit_k _ _).mono ?_; rintro e w3 ⟨rfl, rfl⟩)
            go_ret
            exact ⟨rfl, bbc⟩
        · have hb0 : ((k : Int) - ((p : Int)) == 0) = false := by simp; omega
          have hb1 : decide ((18 : Int) < (k : Int) - ((p : Int))) = true := decide_eq_true (by omega)
          clear hbad
          rcases HX with ⟨hlt, u, y0, hdb⟩ | hdl
          all_goals
            go_wp2_with (go_at_call 11; refine (digit_k _ _).mono ?_; rintro e w3 ⟨rfl, rfl⟩)
            go_ret
            exact ⟨rfl, bbc⟩

  · have hgood : 1 ≤ en - (p) ∧ en - (p) ≤ 18 := hgood
    obtain ⟨hg1, hg2⟩ := hgood
    obtain ⟨N, hN⟩ : ∃ N, N = numOf false (seg D (p) en) := ⟨_, rfl⟩
    have e1 : numOf false (seg D (startOf false p) en) = N := hN.symm
    rw [e1]
    have HN : Hid (N = numOf false (seg D (p) en)) := hN
    have hse : p ≤ en := HRUN.out.1
    obtain ⟨hN1, hN2⟩ : -999999999999999999 ≤ N ∧ N ≤ 999999999999999999 := by
      have hb := dval_bd (seg D (p) en) (seg_mem HRUN.out.2.1)
      have hl : (seg D (p) en).length ≤ 18 := by simp [seg]; omega
      have hpw := pow_mono hl
      have e10 : (10 : Int) ^ 18 = 1000000000000000000 := by decide
      rw [hN]; unfold numOf
      split <;> omega
    clear e1 hN
    go_wp2
    go_loop [13] (fun i => ∃ k : Nat, p ≤ k ∧ k ≤ ld ∧ i = .int .i64 k ∧ Hid (∀ i, p ≤ i → i < k → ∃ v, D[i]? = some v ∧ Dig v)) (fun i => ld - (intOf i).toNat)
    case atStart => exact ⟨p, Nat.le_refl _, by omega, by go_num, fun i h1 h2 => by omega⟩
    case round =>
      obtain ⟨k, hsk, hkl, rfl, hr⟩ := hrel
      by_cases hdig : ∃ u, D[k]? = some u ∧ Dig u
      · obtain ⟨u, hu, hdu⟩ := hdig
        have hlt : k < ld := by rw [← LD.out]; exact (List.getElem?_eq_some_iff.1 hu).1
        have y0 := G0.out k u hu
        have hdb := isDig_yes hdu
        have U : Hid (D[k]? = some u) := hu
        have DU : Hid (Dig u) := hdu
        clear hu hdu
        go_wp2_with (go_at_call 11; refine (digit_k _ _).mono ?_; rintro e w3 ⟨rfl, rfl⟩)
        go_round
        case rel => exact ⟨k + 1, by omega, by omega, by go_num, fun i h1 h2 => by
          by_cases e : i = k
          · subst e; exact ⟨u, U.out, DU.out⟩
          · exact hr.out i h1 (by omega)⟩
        case measure => simp [intOf]; omega
      · have hek : k = en := run_one ⟨hsk, hr.out, fun u hu hdu => hdig ⟨u, hu, hdu⟩⟩ HRUN.out
        have HX : ((k < ld ∧ ∃ u, wc.cell? ⟨b0, o0 + k, none⟩ = some (.int .u8 u) ∧ isDig u = false) ∨ ld ≤ k) := by
          by_cases hlt : k < ld
          · obtain ⟨u, hu⟩ := at_some (show k < D.length by rw [LD.out]; exact hlt)
            exact Or.inl ⟨hlt, u, G0.out k u hu, isDig_no (fun hdu => hdig ⟨u, hu, hdu⟩)⟩
          · exact Or.inr (by omega)
        clear hdig hr
        subst hek
        have hb0 : ((k : Int) - ((p : Int)) == 0) = false := by simp; omega
        have hb1 : decide ((18 : Int) < (k : Int) - ((p : Int))) = false := decide_eq_false (by omega)
        have hb2 : ((k : Int) != (k : Int)) = false := by simp
        rcases HX with ⟨hlt, u, y0, hdb⟩ | hdl
        all_goals
          go_wp2_with (go_at_call 11; refine (digit_k _ _).mono ?_; rintro e w3 ⟨rfl, rfl⟩)
          go_loop [15] (fun i => ∃ j : Nat, p ≤ j ∧ j + 1 ≤ k ∧ i = .int .i64 j ∧ Hid (∀ i, p ≤ i → i < j → D[i]? = some 48)) (fun i => k - (intOf i).toNat)
          case atStart => exact ⟨p, Nat.le_refl _, by omega, by go_num, fun i h1 h2 => by omega⟩
          case round =>
            obtain ⟨j, hsj, hjk, rfl, hzr⟩ := hrel
            obtain ⟨v, hv⟩ := at_some (show j < D.length by rw [LD.out]; omega)
            have y1 := G0.out j v hv
            have V : Hid (D[j]? = some v) := hv
            clear hv
            by_cases hgo : j + 1 < k ∧ v = 48
            · obtain ⟨hj1, hv48⟩ := hgo
              have hvb : (v == 48) = true := by simp [hv48]
              have HV48 : Hid (v = 48) := hv48
              clear hv48
              go_wp2
              go_round
              case rel => exact ⟨j + 1, by omega, by omega, by go_num, fun i h1 h2 => by
                by_cases e : i = j
                · subst e; have := V.out; rw [HV48.out] at this; exact this
                · exact hzr.out i h1 (by omega)⟩
              case measure => simp [intOf]; omega
            · have hx : j + 1 = k ∨ v ≠ 48 := by
                by_cases hj1 : j + 1 < k
                · exact Or.inr (fun e => hgo ⟨hj1, e⟩)
                · exact Or.inl (by omega)
              have HX2 : Hid (j + 1 = k ∨ v ≠ 48) := hx
              have HBL : Hid (b0 < wc.heap.size) := World.block_lt_of_cell? wc ⟨b0, o0 + j, none⟩ y1
              have SEGL : Hid ((seg D j k).length = k - j) := seg_len (by rw [LD.out]; exact hkl)
              have ISEG : Hid (Ints .u8 wc (some ⟨b0, o0 + j, none⟩) (seg D j k)) := by
                refine ⟨b0, o0 + j, fun _ => rfl, fun i x hi => ?_⟩
                rw [Nat.add_assoc]
                refine G0.out (j + i) x ?_
                unfold seg at hi
                rw [List.getElem?_take] at hi
                split at hi
                · rwa [List.getElem?_drop] at hi
                · simp at hi
              obtain ⟨t0, hi, hz0, hz1, hz2⟩ := info_parts Try.info5
              have hs1 : ¬ e0 = j := by omega
              have hs2 : (j : Int) ≤ (k : Int) := by omega
              have hs3 : (k : Int) ≤ (e0 : Int) := by omega
              have hs4 : j ≤ k := by omega
              have hs5 : k ≤ e0 := by omega
              clear hgo hx

              by_cases hj1 : j + 1 < k
              · have hv48 : ¬ v = 48 := by rcases HX2.out with h | h; omega; exact h
                have hvb : (v == 48) = false := by simp [hv48]
                have hq : ((k : Int) - (j : Int) == 1) = false := by simp; omega
                have HB0 : Hid (¬ (k - j = 1 ∧ v = 48)) := fun h => hv48 h.2
                clear hv48
                have HBB : Hid (lawSign false (decide (k - j = 1 ∧ v = 48)) = []) := by
                  show _ = _
                  unfold lawSign
                  rfl

                go_wp2_with (first | (at_make; refine wpList_make_own _ rfl _ _ 22 rfl wc.heap.size 5 t0 (.int .u8 0) 1 Try.underlying22 hi hz0 hz1 .i64 .i64 _ 20 rfl rfl rfl (by rw [hz2]; omega) (by unfold maxLen; omega) (Nat.le_refl _) ?_; intro w3 own3 gr3; have Q0 : Hid (BRow w3 wc.heap.size 20 []) := BRow.made own3; have C0 : Hid (Below wc.heap.size wc w3) := (Below.refl _ _).grown gr3 (Nat.le_refl _) (fun k hk => by cases hk); have y3 : w3.cell? ⟨b0, o0 + j, none⟩ = some (.int .u8 v) := (C0.out.cell (p := ⟨b0, o0 + j, none⟩) HBL.out).trans y1; clear own3 gr3) | (at_builtin; refine wpList_app rfl (.tmp 130) (.tmp 134) rfl wc.heap.size 20 [] (seg D j k) _ 0 (k - j) _ rfl rfl rfl SEGL.out Q0.out (ISEG.out.below C0.out) (by omega) ?_; intro W2 k1 k2 k3 k4; have Q2 : Hid (BRow W2 wc.heap.size 20 ([] ++ seg D j k)) := k1; have C2 : Hid (Below wc.heap.size wc W2) := C0.out.trans k4; clear k1 k2 k3 k4) | (at_make; refine wpList_make_own _ rfl _ _ 22 rfl W2.heap.size 5 t0 (.int .u8 0) 1 Try.underlying22 hi hz0 hz1 .i64 .i64 _ 20 rfl rfl rfl (by rw [hz2]; omega) (by unfold maxLen; omega) (Nat.le_refl _) ?_; intro w5 own5 gr5; have Q5 : Hid (BRow w5 W2.heap.size 20 []) := BRow.made own5; have C5 : Hid (Below W2.heap.size W2 w5) := (Below.refl _ _).grown gr5 (Nat.le_refl _) (fun k hk => by cases hk); clear own5 gr5))
                refine (text_any W2.heap.size N _ hN1 hN2 Q5.out).mono ?_
                rintro e w6 ⟨ds, hc, hv, rfl, hrow, b6⟩
                have hm : sign N ++ ds = [] ++ seg D j k := by
                  rw [HN.out] at hv ⊢
                  rw [match_plain false hsj hjk (by rw [LD.out]; exact hkl) HRUN.out.2.1 hzr.out V.out HX2.out hc hv, HBB.out]
                have hlen : (sign N ++ ds).length = k - j := by
                  rw [hm]; have := SEGL.out; simp; omega
                rw [hlen]
                rw [hm] at hrow
                have b56 := C5.out.trans b6
                have HG : Hid (Ints .u8 w6 (some ⟨W2.heap.size, 0, none⟩) ([] ++ seg D j k)) := hrow.ints
                have HWn : Hid (Ints .u8 w6 (some ⟨wc.heap.size, 0, none⟩) ([] ++ seg D j k)) := (Q2.out.below b56).ints
                have HBF : Hid (Below w'.heap.size w' w6) := by
                  have hx1 : Below w'.heap.size w' W2 := bbc.trans (C2.out.mono bbc.size)
                  exact hx1.trans (b56.mono hx1.size)
                have HLE : Hid (([] ++ seg D j k).length = k - j) := by
                  show _ = _
                  have := SEGL.out; simp; omega
                clear hm hlen hrow b56 b6 hc hv
                go_wp2_with fail
                refine (eqb_any _ _ _ _ ([] ++ seg D j k) _ _ HLE.out (by omega) HG.out HWn.out).mono ?_
                rintro e w7 ⟨rfl, b7⟩
                go_wp2
                go_ret
                exact ⟨rfl, HBF.out.trans (b7.mono HBF.out.size)⟩
              · have hq : ((k : Int) - (j : Int) == 1) = true := by simp; omega
                have HBB : Hid (lawSign false (decide (k - j = 1 ∧ v = 48)) = []) := by
                  show _ = _
                  unfold lawSign
                  rfl

                go_wp2_with (first | (at_make; refine wpList_make_own _ rfl _ _ 22 rfl wc.heap.size 5 t0 (.int .u8 0) 1 Try.underlying22 hi hz0 hz1 .i64 .i64 _ 20 rfl rfl rfl (by rw [hz2]; omega) (by unfold maxLen; omega) (Nat.le_refl _) ?_; intro w3 own3 gr3; have Q0 : Hid (BRow w3 wc.heap.size 20 []) := BRow.made own3; have C0 : Hid (Below wc.heap.size wc w3) := (Below.refl _ _).grown gr3 (Nat.le_refl _) (fun k hk => by cases hk); have y3 : w3.cell? ⟨b0, o0 + j, none⟩ = some (.int .u8 v) := (C0.out.cell (p := ⟨b0, o0 + j, none⟩) HBL.out).trans y1; clear own3 gr3) | (at_builtin; refine wpList_app rfl (.tmp 130) (.tmp 134) rfl wc.heap.size 20 [] (seg D j k) _ 0 (k - j) _ rfl rfl rfl SEGL.out Q0.out (ISEG.out.below C0.out) (by omega) ?_; intro W2 k1 k2 k3 k4; have Q2 : Hid (BRow W2 wc.heap.size 20 ([] ++ seg D j k)) := k1; have C2 : Hid (Below wc.heap.size wc W2) := C0.out.trans k4; clear k1 k2 k3 k4) | (at_make; refine wpList_make_own _ rfl _ _ 22 rfl W2.heap.size 5 t0 (.int .u8 0) 1 Try.underlying22 hi hz0 hz1 .i64 .i64 _ 20 rfl rfl rfl (by rw [hz2]; omega) (by unfold maxLen; omega) (Nat.le_refl _) ?_; intro w5 own5 gr5; have Q5 : Hid (BRow w5 W2.heap.size 20 []) := BRow.made own5; have C5 : Hid (Below W2.heap.size W2 w5) := (Below.refl _ _).grown gr5 (Nat.le_refl _) (fun k hk => by cases hk); clear own5 gr5))
                refine (text_any W2.heap.size N _ hN1 hN2 Q5.out).mono ?_
                rintro e w6 ⟨ds, hc, hv, rfl, hrow, b6⟩
                have hm : sign N ++ ds = [] ++ seg D j k := by
                  rw [HN.out] at hv ⊢
                  rw [match_plain false hsj hjk (by rw [LD.out]; exact hkl) HRUN.out.2.1 hzr.out V.out HX2.out hc hv, HBB.out]
                have hlen : (sign N ++ ds).length = k - j := by
                  rw [hm]; have := SEGL.out; simp; omega
                rw [hlen]
                rw [hm] at hrow
                have b56 := C5.out.trans b6
                have HG : Hid (Ints .u8 w6 (some ⟨W2.heap.size, 0, none⟩) ([] ++ seg D j k)) := hrow.ints
                have HWn : Hid (Ints .u8 w6 (some ⟨wc.heap.size, 0, none⟩) ([] ++ seg D j k)) := (Q2.out.below b56).ints
                have HBF : Hid (Below w'.heap.size w' w6) := by
                  have hx1 : Below w'.heap.size w' W2 := bbc.trans (C2.out.mono bbc.size)
                  exact hx1.trans (b56.mono hx1.size)
                have HLE : Hid (([] ++ seg D j k).length = k - j) := by
                  show _ = _
                  have := SEGL.out; simp; omega
                clear hm hlen hrow b56 b6 hc hv
                go_wp2_with fail
                refine (eqb_any _ _ _ _ ([] ++ seg D j k) _ _ HLE.out (by omega) HG.out HWn.out).mono ?_
                rintro e w7 ⟨rfl, b7⟩
                go_wp2
                go_ret
                exact ⟨rfl, HBF.out.trans (b7.mono HBF.out.size)⟩


end Go.Proofs.Qxb6603291a
