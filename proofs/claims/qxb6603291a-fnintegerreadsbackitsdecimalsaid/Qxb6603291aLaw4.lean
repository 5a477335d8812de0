import Derived.Test.Qxb6603291aBack
namespace Go.Proofs.Qxb6603291a
open Go.RowKit
set_option linter.unusedVariables false

theorem range_text {n : Int} {ds : List Int} (hc : Canon ds) : ∀ v ∈ sign n ++ ds, 0 ≤ v ∧ v ≤ 255 := by
  intro v hv
  rcases List.mem_append.1 hv with hv | hv
  · unfold sign at hv
    split at hv
    · simp at hv; omega
    · simp at hv
  · have hd := hc.2.1 v hv; have := hd.1; have := hd.2; omega

/-- The copying function and the reader, the length under a name of its own. -/
def ClonedN (zs : List Int) (m : Nat) (w : World) (e : Ending) (w' : World) : Prop := ∃ a c, e = .returned (.slice a m c) ∧ Ints .u8 w' a zs ∧ Below w.heap.size w w'
theorem clone_n (a : Option Addr) (c : Nat) (zs : List Int) (m : Nat) (w : World) (hm : zs.length = m) (hl : m ≤ 1048576) (h : Ints .u8 w a zs) (hnil : a = none → zs = []) :
    Calls Try.prog 9 #[.slice a m c] w fun e w' => ClonedN zs m w e w' := by
  subst hm; exact clone_any a c zs w hl h hnil
theorem zint_n (a : Option Addr) (c : Nat) (zs : List Int) (m pos : Nat) (z : Bool) (w : World) (hm : zs.length = m) (hl : m ≤ 2097152) (hpos : pos ≤ 9223372036854775807) (h : Ints .u8 w a zs) (hz : ∀ v ∈ zs, 0 ≤ v ∧ v ≤ 255) :
    Calls Try.prog 10 #[.slice a m c, .int .i64 pos, .bool z] w fun e w' => ZSays zs pos z w e w' := by
  subst hm; exact zint_any a c zs pos z w hl hpos h hz

set_option maxHeartbeats 2000000 in
theorem law4 (a0 : Option Addr) (c0 : Nat) (a1 : Option Addr) (c1 : Nat) (P S : List Int) (lp ls : Nat) (n : Int) (z : Bool) (w : World) (hlp : P.length = lp) (hls : S.length = ls) (hm0 : lp ≤ maxLen) (hm1 : ls ≤ maxLen) (h0 : Ints .u8 w a0 P) (n0 : a0 = none → P = []) (h1 : Ints .u8 w a1 S) (n1 : a1 = none → S = [])
    (hP : ∀ v ∈ P, 0 ≤ v ∧ v ≤ 255) (hS : ∀ v ∈ S, 0 ≤ v ∧ v ≤ 255) :
    Calls Try.prog 4 #[.slice a0 lp c0, .slice a1 ls c1, .int .i64 n, .bool z] w fun e w' => Done w e w' := by
  have LP : Hid (P.length = lp) := hlp
  have LS : Hid (S.length = ls) := hls
  have HP : Hid (∀ v ∈ P, 0 ≤ v ∧ v ≤ 255) := hP
  have HS : Hid (∀ v ∈ S, 0 ≤ v ∧ v ≤ 255) := hS
  have N0 : Hid (a0 = none → P = []) := n0
  have N1 : Hid (a1 = none → S = []) := n1
  have HW : Hid (Ints .u8 w a0 P ∧ Ints .u8 w a1 S) := ⟨h0, h1⟩
  clear hP hS n0 n1 hlp hls h0 h1
  unfold maxLen at hm0 hm1
  by_cases hs : lp + ls ≤ 1048576
  · by_cases hs0 : lp ≤ 524288 ∧ ls ≤ 524288
    · obtain ⟨hs1, hs2⟩ := hs0
      by_cases hn : -999999999999999999 ≤ n ∧ n ≤ 999999999999999999
      · obtain ⟨hn1, hn2⟩ := hn
        have hd0 : decide ((524288 : Int) < (lp : Int)) = false := decide_eq_false (by omega)
        have hd1 : decide ((524288 : Int) < (ls : Int)) = false := decide_eq_false (by omega)
        have hd2 : decide ((999999999999999999 : Int) < n) = false := decide_eq_false (by omega)
        have hd3 : decide (n < (-999999999999999999 : Int)) = false := decide_eq_false (by omega)
        by_cases hl0 : 0 < ls
        · obtain ⟨v, hv⟩ := at_some (show 0 < S.length by rw [LS.out]; exact hl0)
          obtain ⟨b1, o1, q1, g1⟩ := HW.out.2
          have z1 := g1 0 v hv
          have ha := q1 (ne_nil (show 0 < S.length by rw [LS.out]; exact hl0))
          subst ha
          simp only [Nat.add_zero] at z1
          clear g1 q1
          by_cases hd : Dig v
          · have hdb := isDig_yes hd
            clear hd hv
            go_enter Try.func4, Try.ntmps4
            go_wp2_with fail
            refine (zzbz14_yes _ _ _ _ _ _ _ _ _ hs).mono ?_
            rintro e w' ⟨rfl, rfl⟩
            go_wp2_with fail
            refine (isdig11_any _ _).mono ?_
            rintro e w'' ⟨rfl, rfl⟩
            go_wp2
            go_ret
            exact ⟨rfl, Below.refl _ _⟩
          · have hdb := isDig_no hd
            have HND : Hid (∀ v, S[0]? = some v → ¬ Dig v) := fun u hu => by rw [hv] at hu; simp at hu; subst hu; exact hd
            clear hd hv
            go_enter Try.func4, Try.ntmps4
            go_wp2_with fail
            refine (zzbz14_yes _ _ _ _ _ _ _ _ _ hs).mono ?_
            rintro e w' ⟨rfl, rfl⟩
            go_wp2_with fail
            refine (isdig11_any _ _).mono ?_
            rintro e w'' ⟨rfl, rfl⟩
            go_wp2_with fail
            refine (clone_n _ _ _ _ _ LP.out (by omega) HW.out.1 N0.out).mono ?_
            rintro e wa ⟨x0, e0, rfl, i0, ba⟩
            go_wp2_with fail
            refine (clone_n _ _ _ _ _ LS.out (by omega) (HW.out.2.below ba) N1.out).mono ?_
            rintro e wb ⟨x1, e1, rfl, i1, bb⟩
            have i0' := i0.below bb
            have bab := ba.trans (bb.mono ba.size)
            have HW2 : Hid (Ints .u8 wb x0 P ∧ Ints .u8 wb x1 S ∧ Below w''.heap.size w'' wb) := ⟨i0', i1, bab⟩
            clear ba bb i0 HW i0' i1 bab
            obtain ⟨t0, hi, hz0, hz1, hz2⟩ := info_parts Try.info5
            go_wp2_with (at_make; refine wpList_make_own _ rfl _ _ 22 rfl wb.heap.size 5 t0 (.int .u8 0) 1 Try.underlying22 hi hz0 hz1 .i64 .i64 _ 20 rfl rfl rfl (by rw [hz2]; omega) (by unfold maxLen; omega) (Nat.le_refl _) ?_; intro w1 own1 gr1)
            have B1 : Hid (BRow w1 wb.heap.size 20 []) := BRow.made own1
            have b1 : Hid (Below wb.heap.size wb w1) := (Below.refl _ _).grown gr1 (Nat.le_refl _) (fun k hk => by cases hk)
            clear own1 gr1
            go_wp2_with fail
            refine (text_any wb.heap.size n _ hn1 hn2 B1.out).mono ?_
            rintro e w2 ⟨ds, hc, hv, rfl, hrow, b2⟩
            obtain ⟨lt, hlt⟩ : ∃ lt, (sign n ++ ds).length = lt := ⟨_, rfl⟩
            rw [hlt]
            have LT : Hid ((sign n ++ ds).length = lt) := hlt
            have hlt20 : lt ≤ 20 := by have := hrow.1; omega
            have BB : Below wb.heap.size wb w2 := b1.out.trans b2
            have HC : Hid (Canon ds) := hc
            have HV : Hid (dval ds = (n.natAbs : Int)) := hv
            have IP : Hid (Ints .u8 w2 x0 P) := HW2.out.1.below BB
            have IS : Hid (Ints .u8 w2 x1 S) := HW2.out.2.1.below BB
            have IL : Hid (Ints .u8 w2 (some ⟨wb.heap.size, 0, none⟩) (sign n ++ ds)) := hrow.ints
            have HB2 : Hid (Below w''.heap.size w'' w2) := HW2.out.2.2.trans (BB.mono HW2.out.2.2.size)
            clear hlt hrow b2 BB hc hv HW2 B1 b1
            go_wp2_with (first | (at_make; refine wpList_make_own _ rfl _ _ 22 rfl w2.heap.size 5 t0 (.int .u8 0) 1 Try.underlying22 hi hz0 hz1 .i64 .i64 _ (lp + lt + ls) rfl rfl (by omega) (by rw [hz2]; omega) (by unfold maxLen; omega) (Nat.le_refl _) ?_; intro w3 own3 gr3; have Q0 : Hid (BRow w3 w2.heap.size (lp + lt + ls) []) := BRow.made own3; have C0 : Hid (Below w2.heap.size w2 w3) := (Below.refl _ _).grown gr3 (Nat.le_refl _) (fun k hk => by cases hk); clear own3 gr3) | (at_builtin; refine wpList_app rfl (.tmp 60) (.tmp 61) rfl w2.heap.size (lp + lt + ls) [] P _ 0 lp _ rfl rfl rfl LP.out Q0.out (IP.out.below C0.out) (by omega) ?_; intro W1 k1 k2 k3 k4; have Q1 : Hid (BRow W1 w2.heap.size (lp + lt + ls) ([] ++ P)) := k1; have C1 : Hid (Below w2.heap.size w2 W1) := C0.out.trans k4; clear k1 k2 k3 k4) | (at_builtin; refine wpList_app rfl (.tmp 63) (.tmp 64) rfl w2.heap.size (lp + lt + ls) P (sign n ++ ds) _ lp lt _ rfl rfl LP.out LT.out Q1.out (IL.out.below C1.out) (by omega) ?_; intro W2 k1 k2 k3 k4; have Q2 : Hid (BRow W2 w2.heap.size (lp + lt + ls) (P ++ (sign n ++ ds))) := k1; have C2 : Hid (Below w2.heap.size w2 W2) := C1.out.trans k4; clear k1 k2 k3 k4) | (at_builtin; refine wpList_app rfl (.tmp 66) (.tmp 67) rfl w2.heap.size (lp + lt + ls) (P ++ (sign n ++ ds)) S _ (lp + lt) ls _ rfl rfl (by rw [List.length_append, LP.out, LT.out]) LS.out Q2.out (IS.out.below C2.out) (by omega) ?_; intro W3 k1 k2 k3 k4; have Q3 : Hid (BRow W3 w2.heap.size (lp + lt + ls) (P ++ (sign n ++ ds) ++ S)) := k1; have C3 : Hid (Below w2.heap.size w2 W3) := C2.out.trans k4; clear k1 k2 k3 k4))
            have HR : Hid (∀ v ∈ P ++ (sign n ++ ds) ++ S, 0 ≤ v ∧ v ≤ 255) := by
              intro v hv
              rcases List.mem_append.1 hv with hv | hv
              · rcases List.mem_append.1 hv with hv | hv
                · exact HP.out v hv
                · exact range_text HC.out v hv
              · exact HS.out v hv
            refine (zint_n _ _ (P ++ (sign n ++ ds) ++ S) _ lp z _ (by rw [List.length_append, List.length_append, LP.out, LT.out, LS.out]) (by omega) (by omega) Q3.out.ints HR.out).mono ?_
            rintro e w5 ⟨neg, en, hneg, hrun, hcase, b5⟩
            have hpl := back_plain HC.out HV.out HND.out (show NegIs neg (P ++ (sign n ++ ds) ++ S) P.length by rw [LP.out]; exact hneg) (show Run (P ++ (sign n ++ ds) ++ S) (startOf neg P.length) en by rw [LP.out]; exact hrun)
            rw [LP.out, LT.out] at hpl
            obtain ⟨e1', e2', e3'⟩ := hpl
            have hdl : 1 ≤ ds.length ∧ ds.length ≤ 18 := by
              have h1 := canon_short HC.out (by rw [HV.out]; omega)
              have h2 : ds ≠ [] := HC.out.1
              have h3 : 0 < ds.length := List.length_pos_iff.2 h2
              omega
            have HBE : Hid (Below w''.heap.size w'' w5) := by
              have hx : Below w''.heap.size w'' _ := HB2.out.trans (C3.out.mono HB2.out.size)
              exact hx.trans (b5.mono hx.size)
            rcases hcase with ⟨hbad, _⟩ | ⟨_, rfl⟩
            · exact absurd ⟨by omega, by omega⟩ hbad
            rw [e3']
            subst e1'
            have hq1 : (((lp + lt : Nat) : Int) == (lp : Int) + (lt : Int)) = true := by simp
            have hq2 : (z == z) = true := by simp
            clear e2' e3' hneg hrun b5 hdl
            go_wp2
            go_ret
            exact ⟨rfl, HBE.out⟩
        · have HND : Hid (∀ v, S[0]? = some v → ¬ Dig v) := fun u hu => by
            have := (List.getElem?_eq_some_iff.1 hu).1
            rw [LS.out] at this
            exact absurd this hl0
          have hd4 : decide ((0 : Int) < (ls : Int)) = false := decide_eq_false (by omega)
          go_enter Try.func4, Try.ntmps4
          go_wp2_with fail
          refine (zzbz14_yes _ _ _ _ _ _ _ _ _ hs).mono ?_
          rintro e w' ⟨rfl, rfl⟩
          go_wp2_with fail
          refine (clone_n _ _ _ _ _ LP.out (by omega) HW.out.1 N0.out).mono ?_
          rintro e wa ⟨x0, e0, rfl, i0, ba⟩
          go_wp2_with fail
          refine (clone_n _ _ _ _ _ LS.out (by omega) (HW.out.2.below ba) N1.out).mono ?_
          rintro e wb ⟨x1, e1, rfl, i1, bb⟩
          have i0' := i0.below bb
          have bab := ba.trans (bb.mono ba.size)
          have HW2 : Hid (Ints .u8 wb x0 P ∧ Ints .u8 wb x1 S ∧ Below w'.heap.size w' wb) := ⟨i0', i1, bab⟩
          clear ba bb i0 HW i0' i1 bab
          obtain ⟨t0, hi, hz0, hz1, hz2⟩ := info_parts Try.info5
          go_wp2_with (at_make; refine wpList_make_own _ rfl _ _ 22 rfl wb.heap.size 5 t0 (.int .u8 0) 1 Try.underlying22 hi hz0 hz1 .i64 .i64 _ 20 rfl rfl rfl (by rw [hz2]; omega) (by unfold maxLen; omega) (Nat.le_refl _) ?_; intro w1 own1 gr1)
          have B1 : Hid (BRow w1 wb.heap.size 20 []) := BRow.made own1
          have b1 : Hid (Below wb.heap.size wb w1) := (Below.refl _ _).grown gr1 (Nat.le_refl _) (fun k hk => by cases hk)
          clear own1 gr1
          go_wp2_with fail
          refine (text_any wb.heap.size n _ hn1 hn2 B1.out).mono ?_
          rintro e w2 ⟨ds, hc, hv, rfl, hrow, b2⟩
          obtain ⟨lt, hlt⟩ : ∃ lt, (sign n ++ ds).length = lt := ⟨_, rfl⟩
          rw [hlt]
          have LT : Hid ((sign n ++ ds).length = lt) := hlt
          have hlt20 : lt ≤ 20 := by have := hrow.1; omega
          have BB : Below wb.heap.size wb w2 := b1.out.trans b2
          have HC : Hid (Canon ds) := hc
          have HV : Hid (dval ds = (n.natAbs : Int)) := hv
          have IP : Hid (Ints .u8 w2 x0 P) := HW2.out.1.below BB
          have IS : Hid (Ints .u8 w2 x1 S) := HW2.out.2.1.below BB
          have IL : Hid (Ints .u8 w2 (some ⟨wb.heap.size, 0, none⟩) (sign n ++ ds)) := hrow.ints
          have HB2 : Hid (Below w'.heap.size w' w2) := HW2.out.2.2.trans (BB.mono HW2.out.2.2.size)
          clear hlt hrow b2 BB hc hv HW2 B1 b1
          go_wp2_with (first | (at_make; refine wpList_make_own _ rfl _ _ 22 rfl w2.heap.size 5 t0 (.int .u8 0) 1 Try.underlying22 hi hz0 hz1 .i64 .i64 _ (lp + lt + ls) rfl rfl (by omega) (by rw [hz2]; omega) (by unfold maxLen; omega) (Nat.le_refl _) ?_; intro w3 own3 gr3; have Q0 : Hid (BRow w3 w2.heap.size (lp + lt + ls) []) := BRow.made own3; have C0 : Hid (Below w2.heap.size w2 w3) := (Below.refl _ _).grown gr3 (Nat.le_refl _) (fun k hk => by cases hk); clear own3 gr3) | (at_builtin; refine wpList_app rfl (.tmp 60) (.tmp 61) rfl w2.heap.size (lp + lt + ls) [] P _ 0 lp _ rfl rfl rfl LP.out Q0.out (IP.out.below C0.out) (by omega) ?_; intro W1 k1 k2 k3 k4; have Q1 : Hid (BRow W1 w2.heap.size (lp + lt + ls) ([] ++ P)) := k1; have C1 : Hid (Below w2.heap.size w2 W1) := C0.out.trans k4; clear k1 k2 k3 k4) | (at_builtin; refine wpList_app rfl (.tmp 63) (.tmp 64) rfl w2.heap.size (lp + lt + ls) P (sign n ++ ds) _ lp lt _ rfl rfl LP.out LT.out Q1.out (IL.out.below C1.out) (by omega) ?_; intro W2 k1 k2 k3 k4; have Q2 : Hid (BRow W2 w2.heap.size (lp + lt + ls) (P ++ (sign n ++ ds))) := k1; have C2 : Hid (Below w2.heap.size w2 W2) := C1.out.trans k4; clear k1 k2 k3 k4) | (at_builtin; refine wpList_app rfl (.tmp 66) (.tmp 67) rfl w2.heap.size (lp + lt + ls) (P ++ (sign n ++ ds)) S _ (lp + lt) ls _ rfl rfl (by rw [List.length_append, LP.out, LT.out]) LS.out Q2.out (IS.out.below C2.out) (by omega) ?_; intro W3 k1 k2 k3 k4; have Q3 : Hid (BRow W3 w2.heap.size (lp + lt + ls) (P ++ (sign n ++ ds) ++ S)) := k1; have C3 : Hid (Below w2.heap.size w2 W3) := C2.out.trans k4; clear k1 k2 k3 k4))
          have HR : Hid (∀ v ∈ P ++ (sign n ++ ds) ++ S, 0 ≤ v ∧ v ≤ 255) := by
            intro v hv
            rcases List.mem_append.1 hv with hv | hv
            · rcases List.mem_append.1 hv with hv | hv
              · exact HP.out v hv
              · exact range_text HC.out v hv
            · exact HS.out v hv
          refine (zint_n _ _ (P ++ (sign n ++ ds) ++ S) _ lp z _ (by rw [List.length_append, List.length_append, LP.out, LT.out, LS.out]) (by omega) (by omega) Q3.out.ints HR.out).mono ?_
          rintro e w5 ⟨neg, en, hneg, hrun, hcase, b5⟩
          have hpl := back_plain HC.out HV.out HND.out (show NegIs neg (P ++ (sign n ++ ds) ++ S) P.length by rw [LP.out]; exact hneg) (show Run (P ++ (sign n ++ ds) ++ S) (startOf neg P.length) en by rw [LP.out]; exact hrun)
          rw [LP.out, LT.out] at hpl
          obtain ⟨e1', e2', e3'⟩ := hpl
          have hdl : 1 ≤ ds.length ∧ ds.length ≤ 18 := by
            have h1 := canon_short HC.out (by rw [HV.out]; omega)
            have h2 : ds ≠ [] := HC.out.1
            have h3 : 0 < ds.length := List.length_pos_iff.2 h2
            omega
          have HBE : Hid (Below w'.heap.size w' w5) := by
            have hx : Below w'.heap.size w' _ := HB2.out.trans (C3.out.mono HB2.out.size)
            exact hx.trans (b5.mono hx.size)
          rcases hcase with ⟨hbad, _⟩ | ⟨_, rfl⟩
          · exact absurd ⟨by omega, by omega⟩ hbad
          rw [e3']
          subst e1'
          have hq1 : (((lp + lt : Nat) : Int) == (lp : Int) + (lt : Int)) = true := by simp
          have hq2 : (z == z) = true := by simp
          clear e2' e3' hneg hrun b5 hdl
          go_wp2
          go_ret
          exact ⟨rfl, HBE.out⟩
      · go_enter Try.func4, Try.ntmps4
        go_wp2_with fail
        refine (zzbz14_yes _ _ _ _ _ _ _ _ _ hs).mono ?_
        rintro e w' ⟨rfl, rfl⟩
        rcases (show n < -999999999999999999 ∨ 999999999999999999 < n by omega) with hx | hx
        all_goals
          have hd0 : decide ((524288 : Int) < (lp : Int)) = false := decide_eq_false (by omega)
          have hd1 : decide ((524288 : Int) < (ls : Int)) = false := decide_eq_false (by omega)
          have hd2 : decide ((999999999999999999 : Int) < n) = _ := rfl
          go_wp2
          go_ret
          exact ⟨rfl, Below.refl _ _⟩
    · go_enter Try.func4, Try.ntmps4
      go_wp2_with fail
      refine (zzbz14_yes _ _ _ _ _ _ _ _ _ hs).mono ?_
      rintro e w' ⟨rfl, rfl⟩
      by_cases hx : lp ≤ 524288
      all_goals
        go_wp2
        go_ret
        exact ⟨rfl, Below.refl _ _⟩
  · go_enter Try.func4, Try.ntmps4
    go_wp2_with fail
    refine (zzbz14_no _ _ _ _ _ _ _ _ _ (by omega) (by unfold maxLen; omega) (by unfold maxLen; omega)).mono ?_
    rintro e w' ⟨rfl, rfl⟩
    go_wp2
    go_ret
    exact ⟨rfl, Below.refl _ _⟩
end Go.Proofs.Qxb6603291a
