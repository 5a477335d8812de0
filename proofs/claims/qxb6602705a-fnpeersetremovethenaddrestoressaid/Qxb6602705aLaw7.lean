import Derived.Test.Qxb6602705aT13
namespace Go.Proofs.Qxb6602705a
open Go.RowKit
set_option linter.unusedVariables false

theorem zip_parts7 : ∀ l : List (Int × Int), (l.map Prod.fst).zip (l.map Prod.snd) = l
  | [] => rfl
  | a :: r => by simp only [List.map_cons, List.zip_cons_cons, zip_parts7 r]

set_option maxHeartbeats 1000000 in
theorem law7 (a0 : Option Addr) (c0 : Nat) (a1 : Option Addr) (c1 : Nat) (ws bs : List Int) (p : Int) (w : World) (hm0 : ws.length ≤ maxLen) (hm1 : bs.length ≤ maxLen) (h0 : Ints .i64 w a0 ws) (n0 : a0 = none → ws = []) (h1 : Ints .u64 w a1 bs) (n1 : a1 = none → bs = [])
    (hw : ∀ v ∈ ws, v ≤ 9223372036854775807) (hbu : ∀ y ∈ bs, U64 y) (hp : p ≤ 9223372036854775807) :
    Calls Try.prog 7 #[.slice a0 ws.length c0, .slice a1 bs.length c1, .int .i64 p] w fun e w' => Done w e w' := by
  have HW : Hid (∀ v ∈ ws, v ≤ 9223372036854775807) := hw
  have HBU : Hid (∀ y ∈ bs, U64 y) := hbu
  have N0 : Hid (a0 = none → ws = []) := n0
  have N1 : Hid (a1 = none → bs = []) := n1
  clear hw hbu n0 n1
  by_cases hs : ws.length + bs.length ≤ 1048576
  · by_cases hs0 : ws.length ≤ 4096
    · by_cases hs1 : bs.length ≤ 4096
      · by_cases hp0 : 0 ≤ p
        · have hd0 : decide ((4096 : Int) < (ws.length : Int)) = false := decide_eq_false (by omega)
          have hd1 : decide ((4096 : Int) < (bs.length : Int)) = false := decide_eq_false (by omega)
          have hd2 : decide (p < 0) = false := decide_eq_false (by omega)
          go_enter Try.func7, Try.ntmps7
          go_wp2_with fail
          refine (zzbz24_yes _ _ _ _ _ _ _ _ hs).mono ?_
          rintro e w' ⟨rfl, rfl⟩
          go_wp2_with fail
          refine (wf_any _ _ _ _ _ _ _ (by omega) (by omega) h0 h1).mono ?_
          rintro e wa ⟨r, rfl, hr, hba⟩
          have HR : Hid (r = true ↔ WF ws bs) := hr
          clear hr
          cases r
          · go_wp2
            go_ret
            exact ⟨rfl, hba⟩
          · have W0 : Hid (WF ws bs) := HR.out.1 rfl
            have G0 : Hid (Good (ws.zip bs)) := wf_good W0.out HW.out HBU.out
            have i0 := h0.below hba
            have i1 := h1.below hba
            clear h0 h1
            go_wp2_with fail
            refine (get_any _ _ _ _ ws bs _ _ (by omega) (by omega) i0 i1).mono ?_
            rintro e wa' ⟨rfl, rfl⟩
            go_wp2_with fail
            refine (mask_any _ _ _ hp0 hp).mono ?_
            rintro e wa2 ⟨rfl, rfl⟩
            by_cases hin : bits BinOp.and IntKind.u64 (get ws bs (p / 64)) (mask p (p / 64)) = 0
            · have hb0 : (bits BinOp.and IntKind.u64 (get ws bs (p / 64)) (mask p (p / 64)) != 0) = false := by simp [hin]
              have hb1 : (bits BinOp.and IntKind.u64 (get ws bs (p / 64)) (mask p (p / 64)) == 0) = true := by simp [hin]
              have HIN : Hid (andd (get ws bs (p / 64)) (mask p (p / 64)) = 0) := hin
              clear hin
              go_wp2
              go_ret
              exact ⟨rfl, hba⟩
            · have hb0 : (bits BinOp.and IntKind.u64 (get ws bs (p / 64)) (mask p (p / 64)) != 0) = true := by simp [hin]
              have hb1 : (bits BinOp.and IntKind.u64 (get ws bs (p / 64)) (mask p (p / 64)) == 0) = false := by simp [hin]
              have HIN : Hid (andd (get ws bs (p / 64)) (mask p (p / 64)) ≠ 0) := hin
              clear hin
              have hm : mask p (p / 64) = bitOf p := by rw [mask, if_pos rfl]
              have HIN' : Hid (andd (get ws bs (p / 64)) (bitOf p) ≠ 0) := by rw [← hm]; exact HIN.out
              clear HIN hm
              go_wp2_with fail
              clear hb0 hb1
              refine (cloneInt_any _ _ _ _ (by omega) i0 N0.out).mono ?_
              rintro e wb ⟨x0, d0, rfl, hi0, hbb⟩
              go_wp2_with fail
              refine (clone_any _ _ _ _ (by omega) (i1.below hbb) N1.out).mono ?_
              rintro e wc ⟨x1, d1, rfl, hi1, hbc⟩
              have hi0' := hi0.below hbc
              have hbd : Below w'.heap.size w' wc := (hba.trans (hbb.mono hba.size)).trans (hbc.mono (Nat.le_trans hba.size hbb.size))
              clear hba hbb hbc hi0 i0 i1
              go_wp2_with fail
              refine (zrem_any _ _ _ _ _ _ _ _ (by omega) W0.out.1 hi0' hi1 (good_rising G0.out) hp0 hp).mono ?_
              rintro e wd ⟨us, rw, rb, y0, e0, y1, e1, rfl, hrw, hrb, hrl, hform, hj0, hj1, hbe⟩
              have hlw : rw.length = us.length := by rw [hrw]; simp
              have hlb : rb.length = us.length := by rw [hrb]; simp
              have hlw' : rw.length ≤ 4097 := by omega
              have HLL : Hid (rw.length = rb.length) := by show _ = _; omega
              have HU : Hid (rw.zip rb = us) := by rw [hrw, hrb]; exact zip_parts7 us
              have HF : Hid (RemForm (ws.zip bs) p us) := hform
              have HGU : Hid (Good us) := rem_good G0.out hform
              clear hrw hrb hrl hform hlw hlb
              have hi0'' := hi0'.below hbe
              have hi1'' := hi1.below hbe
              have hbf : Below w'.heap.size w' wd := hbd.trans (hbe.mono hbd.size)
              clear hi0' hi1 hbd hbe
              go_wp2_with fail
              refine (zadd_any _ _ _ _ _ _ _ _ (by omega) HLL.out hj0 hj1 (by rw [HU.out]; exact good_rising HGU.out) hp0 hp).mono ?_
              rintro e we ⟨vs, qw, qb, y2, e2, y3, e3, rfl, hqw, hqb, hql, hform2, hj2, hj3, hbg⟩
              have hvs : vs = ws.zip bs := by
                rw [HU.out] at hform2
                refine rem_add G0.out HF.out hform2 ?_
                rw [List.map_fst_zip (by have := W0.out.1; omega), List.map_snd_zip (by have := W0.out.1; omega)]
                exact HIN'.out
              have e5 : qw = ws := by rw [hqw, hvs, List.map_fst_zip (by have := W0.out.1; omega)]
              have e6 : qb = bs := by rw [hqb, hvs, List.map_snd_zip (by have := W0.out.1; omega)]
              subst e5
              subst e6
              have k0 := hi0''.below hbg
              have k1 := hi1''.below hbg
              have hbh : Below w'.heap.size w' we := hbf.trans (hbg.mono hbf.size)
              clear hi0'' hi1'' hj0 hj1 hbf hbg hqw hqb hql hform2 hvs
              go_wp2_with fail
              refine (same_any _ _ _ _ _ _ _ _ _ _ _ (by omega) W0.out.1 hj2 hj3 k0 k1).mono ?_
              rintro e wf ⟨rfl, hbi⟩
              go_wp2
              go_ret
              exact ⟨rfl, hbh.trans (hbi.mono hbh.size)⟩
        · go_enter Try.func7, Try.ntmps7
          go_wp2_with fail
          refine (zzbz24_yes _ _ _ _ _ _ _ _ hs).mono ?_
          rintro e w' ⟨rfl, rfl⟩
          go_wp2
          go_ret
          exact ⟨rfl, Below.refl _ _⟩
      · go_enter Try.func7, Try.ntmps7
        go_wp2_with fail
        refine (zzbz24_yes _ _ _ _ _ _ _ _ hs).mono ?_
        rintro e w' ⟨rfl, rfl⟩
        go_wp2
        go_ret
        exact ⟨rfl, Below.refl _ _⟩
    · go_enter Try.func7, Try.ntmps7
      go_wp2_with fail
      refine (zzbz24_yes _ _ _ _ _ _ _ _ hs).mono ?_
      rintro e w' ⟨rfl, rfl⟩
      go_wp2
      go_ret
      exact ⟨rfl, Below.refl _ _⟩
  · go_enter Try.func7, Try.ntmps7
    go_wp2_with fail
    refine (zzbz24_no _ _ _ _ _ _ _ _ (by omega) hm0 hm1).mono ?_
    rintro e w' ⟨rfl, rfl⟩
    go_wp2
    go_ret
    exact ⟨rfl, Below.refl _ _⟩
end Go.Proofs.Qxb6602705a
