import Derived.Test.Qxb6602705aT13
namespace Go.Proofs.Qxb6602705a
open Go.RowKit
set_option linter.unusedVariables false

set_option maxHeartbeats 1000000 in
theorem law3 (a0 : Option Addr) (c0 : Nat) (a1 : Option Addr) (c1 : Nat) (ws bs : List Int) (p : Int) (w : World) (hm0 : ws.length ≤ maxLen) (hm1 : bs.length ≤ maxLen) (h0 : Ints .i64 w a0 ws) (n0 : a0 = none → ws = []) (h1 : Ints .u64 w a1 bs) (n1 : a1 = none → bs = [])
    (hw : ∀ v ∈ ws, v ≤ 9223372036854775807) (hbu : ∀ y ∈ bs, U64 y) (hp : p ≤ 9223372036854775807) :
    Calls Try.prog 3 #[.slice a0 ws.length c0, .slice a1 bs.length c1, .int .i64 p] w fun e w' => Done w e w' := by
  have HW : Hid (∀ v ∈ ws, v ≤ 9223372036854775807) := hw
  have HBU : Hid (∀ y ∈ bs, U64 y) := hbu
  have N0 : Hid (a0 = none → ws = []) := n0
  have N1 : Hid (a1 = none → bs = []) := n1
  clear hw hbu n0 n1
  by_cases hs : ws.length + bs.length ≤ 1048576
  · by_cases hs0 : ws.length ≤ 4096
    · by_cases hs1 : bs.length ≤ 4096
      · by_cases hp0 : 0 ≤ p
        · have hd0 : decide ((4096 : Int) < (ws.length : Int)) = false := decide_eq_false (by omega)
          have hd1 : decide ((4096 : Int) < (bs.length : Int)) = false := decide_eq_false (by omega)
          have hd2 : decide (p < 0) = false := decide_eq_false (by omega)
          go_enter Try.func3, Try.ntmps3
          go_wp2_with fail
          refine (zzbz12_yes _ _ _ _ _ _ _ _ hs).mono ?_
          rintro e w' ⟨rfl, rfl⟩
          go_wp2_with fail
          refine (wf_any _ _ _ _ _ _ _ (by omega) (by omega) h0 h1).mono ?_
          rintro e wa ⟨r, rfl, hr, hba⟩
          have HR : Hid (r = true ↔ WF ws bs) := hr
          clear hr
          cases r
          · go_wp2
            go_ret
            exact ⟨rfl, hba⟩
          · have W0 : Hid (WF ws bs) := HR.out.1 rfl
            have G0 : Hid (Good (ws.zip bs)) := wf_good W0.out HW.out HBU.out
            go_wp2_with fail
            refine (cloneInt_any _ _ _ _ (by omega) (h0.below hba) N0.out).mono ?_
            rintro e wb ⟨x0, d0, rfl, hi0, hbb⟩
            go_wp2_with fail
            refine (clone_any _ _ _ _ (by omega) ((h1.below hba).below hbb) N1.out).mono ?_
            rintro e wc ⟨x1, d1, rfl, hi1, hbc⟩
            have hi0' := hi0.below hbc
            have hbd : Below w'.heap.size w' wc := (hba.trans (hbb.mono hba.size)).trans (hbc.mono (Nat.le_trans hba.size hbb.size))
            clear hba hbb hbc hi0
            go_wp2_with fail
            refine (zadd_any _ _ _ _ _ _ _ _ (by omega) W0.out.1 hi0' hi1 (good_rising G0.out) hp0 hp).mono ?_
            rintro e wd ⟨rs, rw, rb, y0, e0, y1, e1, rfl, hrw, hrb, hrl, hform, hj0, hj1, hbe⟩
            have hlw : rw.length = rs.length := by rw [hrw]; simp
            have hlb : rb.length = rs.length := by rw [hrb]; simp
            have hlw' : rw.length ≤ 4097 := by omega
            have hlb' : rb.length ≤ 4097 := by omega
            have HLL : Hid (rw.length = rb.length) := by show _ = _; omega
            have HG : Hid (Good rs) := add_good hp0 hp G0.out hform
            have HWF : Hid (WF rw rb) := by rw [hrw, hrb]; exact good_wf HG.out
            have HZ0 : (ws.zip bs).map Prod.fst = ws := List.map_fst_zip (by have := W0.out.1; omega)
            have HZ1 : (ws.zip bs).map Prod.snd = bs := List.map_snd_zip (by have := W0.out.1; omega)
            have ONE : Hid (∀ (k : Nat) (x y : Int), rw[k]? = some x → rb[k]? = some y → (y != bits BinOp.or IntKind.u64 (get ws bs x) (mask p x)) = false) := by
              intro k x y hx hy
              have hm : (x, y) ∈ rs := by
                apply List.mem_of_getElem? (i := k)
                rw [hrw, List.getElem?_map] at hx
                rw [hrb, List.getElem?_map] at hy
                cases hq : rs[k]? with
                | none => rw [hq] at hx; simp at hx
                | some q => rw [hq] at hx hy; simp at hx hy; rw [← hx, ← hy]
              have := add_one G0.out hform hm
              rw [HZ0, HZ1] at this
              rw [bne_eq_false_iff_eq]
              exact this
            have TWO : Hid (∀ (k : Nat) (x y : Int), ws[k]? = some x → bs[k]? = some y → (get rw rb x != bits BinOp.or IntKind.u64 y (mask p x)) = false) := by
              intro k x y hx hy
              have hm : (x, y) ∈ ws.zip bs := by
                apply List.mem_of_getElem? (i := k)
                rw [List.getElem?_zip_eq_some]; exact ⟨hx, hy⟩
              have := add_two hp0 hp G0.out hform hm
              rw [← hrw, ← hrb] at this
              rw [bne_eq_false_iff_eq]
              exact this
            have THREE : Hid ((get rw rb (p / 64) == bits BinOp.or IntKind.u64 (get ws bs (p / 64)) (mask p (p / 64))) = true) := by
              have := add_three hp0 hp G0.out hform
              rw [HZ0, HZ1, ← hrw, ← hrb] at this
              show _ = _
              rw [beq_iff_eq]
              exact this
            clear hrw hrb hrl hform hlw hlb HZ0 HZ1
            have hi0'' := hi0'.below hbe
            have hi1'' := hi1.below hbe
            have hbf : Below w'.heap.size w' wd := hbd.trans (hbe.mono hbd.size)
            clear hi0' hi1 hbd hbe h0 h1
            go_wp2_with fail
            refine (wf_any _ _ _ _ _ _ _ (by omega) (by omega) hj0 hj1).mono ?_
            rintro e we ⟨r, rfl, hr, hbg⟩
            cases r
            · exact absurd (hr.2 HWF.out) (by simp)
            clear hr
            have k0 := hi0''.below hbg
            have k1 := hi1''.below hbg
            have k2 := hj0.below hbg
            have k3 := hj1.below hbg
            have hbh : Below w'.heap.size w' we := hbf.trans (hbg.mono hbf.size)
            clear hi0'' hi1'' hj0 hj1 hbf hbg
            go_wp2
            go_loopw [9] (fun i wr => ∃ k : Nat, k ≤ rw.length ∧ i = .int .i64 k ∧ Below we.heap.size we wr) (fun i _ => rw.length - (intOf i).toNat)
            case atStart => exact ⟨0, Nat.zero_le _, rfl, Below.refl _ _⟩
            case round =>
              obtain ⟨k, hk, rfl, hb⟩ := hrel
              have j0 := k0.below hb
              have j1 := k1.below hb
              have j2 := k2.below hb
              have j3 := k3.below hb
              by_cases hlt : k < rw.length
              · have hlt1 : k < rb.length := by have := HLL.out; omega
                obtain ⟨b0, o0, q0, g0⟩ := j2
                obtain ⟨b1, o1, q1, g1⟩ := j3
                obtain ⟨v, hv⟩ := at_some hlt
                obtain ⟨y, hy⟩ := at_some hlt1
                have z0 := g0 k v hv
                have z1 := g1 k y hy
                obtain rfl := q0 (ne_nil hlt)
                obtain rfl := q1 (ne_nil hlt1)
                have t := ONE.out k v y hv hy
                clear hv hy g0 g1 q0 q1
                go_wp2
                go_quiet ((first | (go_at_call 17; exact Calls.quiet_of_same (get_any _ _ _ _ ws bs _ _ (by omega) (by omega) (by exact j0) (by exact j1))) | (go_at_call 18; exact Calls.quiet_of_same (mask_any _ _ _ hp0 hp))))
                go_wp2
                go_roundw
                case rel => exact ⟨k + 1, by omega, by go_num, below_drewN hb _⟩
                case measure => simp [intOf]; omega
              · have hbi : Below w'.heap.size w' wr := hbh.trans (hb.mono hbh.size)
                clear hb hbh k0 k1 k2 k3 ONE
                go_wp2
                go_loopw [10] (fun i wx => ∃ m : Nat, m ≤ ws.length ∧ i = .int .i64 m ∧ Below wr.heap.size wr wx) (fun i _ => ws.length - (intOf i).toNat)
                case atStart => exact ⟨0, Nat.zero_le _, rfl, Below.refl _ _⟩
                case round =>
                  obtain ⟨m, hm, rfl, hb⟩ := hrel
                  have l0 := j0.below hb
                  have l1 := j1.below hb
                  have l2 := j2.below hb
                  have l3 := j3.below hb
                  clear j0 j1 j2 j3
                  by_cases hlt : m < ws.length
                  · have hlt1 : m < bs.length := by have := W0.out.1; omega
                    obtain ⟨b0, o0, q0, g0⟩ := l0
                    obtain ⟨b1, o1, q1, g1⟩ := l1
                    obtain ⟨v, hv⟩ := at_some hlt
                    obtain ⟨y, hy⟩ := at_some hlt1
                    have z0 := g0 m v hv
                    have z1 := g1 m y hy
                    obtain rfl := q0 (ne_nil hlt)
                    obtain rfl := q1 (ne_nil hlt1)
                    have t := TWO.out m v y hv hy
                    clear hv hy g0 g1 q0 q1
                    go_wp2
                    go_quiet ((first | (go_at_call 17; exact Calls.quiet_of_same (get_any _ _ _ _ rw rb _ _ (by omega) (by omega) (by exact l2) (by exact l3))) | (go_at_call 18; exact Calls.quiet_of_same (mask_any _ _ _ hp0 hp))))
                    go_wp2
                    go_roundw
                    case rel => exact ⟨m + 1, by omega, by go_num, below_drewN hb _⟩
                    case measure => simp [intOf]; omega
                  · have hbj := hbi.trans (hb.mono hbi.size)
                    have t := THREE.out
                    clear hb hbi TWO
                    go_wp2_with fail
                    refine (get_any _ _ _ _ rw rb _ _ (by omega) (by omega) l2 l3).mono ?_
                    rintro e w'' ⟨rfl, rfl⟩
                    go_wp2_with fail
                    refine (get_any _ _ _ _ ws bs _ _ (by omega) (by omega) l0 l1).mono ?_
                    rintro e w3 ⟨rfl, rfl⟩
                    go_wp2_with fail
                    refine (mask_any _ _ _ hp0 hp).mono ?_
                    rintro e w4 ⟨rfl, rfl⟩
                    go_wp2
                    go_ret
                    exact ⟨rfl, hbj⟩
        · go_enter Try.func3, Try.ntmps3
          go_wp2_with fail
          refine (zzbz12_yes _ _ _ _ _ _ _ _ hs).mono ?_
          rintro e w' ⟨rfl, rfl⟩
          go_wp2
          go_ret
          exact ⟨rfl, Below.refl _ _⟩
      · go_enter Try.func3, Try.ntmps3
        go_wp2_with fail
        refine (zzbz12_yes _ _ _ _ _ _ _ _ hs).mono ?_
        rintro e w' ⟨rfl, rfl⟩
        go_wp2
        go_ret
        exact ⟨rfl, Below.refl _ _⟩
    · go_enter Try.func3, Try.ntmps3
      go_wp2_with fail
      refine (zzbz12_yes _ _ _ _ _ _ _ _ hs).mono ?_
      rintro e w' ⟨rfl, rfl⟩
      go_wp2
      go_ret
      exact ⟨rfl, Below.refl _ _⟩
  · go_enter Try.func3, Try.ntmps3
    go_wp2_with fail
    refine (zzbz12_no _ _ _ _ _ _ _ _ (by omega) hm0 hm1).mono ?_
    rintro e w' ⟨rfl, rfl⟩
    go_wp2
    go_ret
    exact ⟨rfl, Below.refl _ _⟩
end Go.Proofs.Qxb6602705a
