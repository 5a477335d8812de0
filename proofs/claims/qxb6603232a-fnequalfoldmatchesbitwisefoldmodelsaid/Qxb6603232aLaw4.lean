import Derived.Test.Qxb6603232aFold
namespace Go.Proofs.Qxb6603232a
open Go.RowKit
set_option linter.unusedVariables false

theorem zzbz12_yes (a0 : Option Addr) (n0 c0 : Nat) (S : ByteArray) (w : World) (h0 : n0 + S.size ≤ 1048576) :
    Calls Try.prog 12 #[.slice a0 n0 c0, .string S] w fun e w' => e = .returned (.bool true) ∧ w' = w := by
  go_enter Try.func12, Try.ntmps12
  go_wp2
  go_ret
  exact ⟨rfl, rfl⟩
theorem zzbz12_no (a0 : Option Addr) (n0 c0 : Nat) (S : ByteArray) (w : World) (h0 : 1048576 < n0 + S.size) (hm0 : n0 ≤ maxLen) (hm1 : S.size ≤ maxLen) :
    Calls Try.prog 12 #[.slice a0 n0 c0, .string S] w fun e w' => e = .returned (.bool false) ∧ w' = w := by
  unfold maxLen at hm0 hm1
  by_cases h1 : n0 ≤ 1048576
  · by_cases h2 : S.size ≤ 1048576
    all_goals
      go_enter Try.func12, Try.ntmps12
      go_wp2
      go_ret
      exact ⟨rfl, rfl⟩
  · go_enter Try.func12, Try.ntmps12
    go_wp2
    go_ret
    exact ⟨rfl, rfl⟩

theorem same_bool {r : Bool} {p : Prop} (h : r = true ↔ p) (hp : p) : r = true := h.2 hp
theorem same_bool' {r : Bool} {p : Prop} (h : r = true ↔ p) (hp : ¬ p) : r = false := by cases r with | false => rfl | true => exact absurd (h.1 rfl) hp

set_option maxHeartbeats 1000000 in
theorem law4 (a0 : Option Addr) (c0 : Nat) (zs : List Int) (S : ByteArray) (w : World) (hm0 : zs.length ≤ maxLen) (hm1 : S.size ≤ maxLen) (h0 : Ints .u8 w a0 zs) (n0 : a0 = none → zs = []) (hz : ∀ v ∈ zs, 0 ≤ v ∧ v ≤ 255) :
    Calls Try.prog 4 #[.slice a0 zs.length c0, .string S] w fun e w' => Done w e w' := by
  have HZ : Hid (∀ v ∈ zs, 0 ≤ v ∧ v ≤ 255) := hz
  have N0 : Hid (a0 = none → zs = []) := n0
  clear hz n0
  by_cases hs : zs.length + S.size ≤ 1048576
  · have hd0 : decide ((1048576 : Int) < (zs.length : Int)) = false := decide_eq_false (by omega)
    have hd1 : decide ((1048576 : Int) < (S.size : Int)) = false := decide_eq_false (by omega)
    have hd2 : decide ((1048576 : Int) < (zs.length : Int) + (S.size : Int)) = false := decide_eq_false (by omega)
    by_cases hlen : zs.length = S.size
    · have HL : Hid (zs.length = S.size) := hlen
      have hln : ((zs.length : Int) == (S.size : Int)) = true := by rw [hlen]; simp
      clear hlen
      go_enter Try.func4, Try.ntmps4
      go_wp2_with fail
      refine (zzbz12_yes _ _ _ _ _ hs).mono ?_
      rintro e w' ⟨rfl, rfl⟩
      go_wp2_with fail
      refine (clone_any _ _ _ _ (by omega) h0 N0.out).mono ?_
      rintro e wb ⟨x0, d0, rfl, hi0, hbb⟩
      clear h0
      go_wp2
      go_loopw [5, 6] (fun s5 i wr => ∃ k : Nat, k ≤ zs.length ∧ s5 = .bool true ∧ i = .int .i64 k ∧ Hid (FoldTo zs S k) ∧ Below wb.heap.size wb wr) (fun _ i _ => zs.length - (intOf i).toNat)
      case atStart => exact ⟨0, Nat.zero_le _, rfl, rfl, fun i v d hi => absurd hi (Nat.not_lt_zero _), Below.refl _ _⟩
      case round =>
        obtain ⟨k, hk, rfl, rfl, hr, hb⟩ := hrel
        have j0 := hi0.below hb
        have hbc := hbb.trans (hb.mono hbb.size)
        by_cases hlt : k < zs.length
        · obtain ⟨b0, o0, q0, g0⟩ := hi0.below hb
          obtain ⟨v, hv⟩ := at_some hlt
          have z0 := g0 k v hv
          obtain rfl := q0 (ne_nil hlt)
          have hks : k < S.size := by rw [← HL.out]; exact hlt
          have hks' : (k : Int) < (S.size : Int) := by omega
          have hvb := HZ.out v (List.mem_of_getElem? hv)
          have hsb := byte_bd S k hks
          have V : Hid (zs[k]? = some v) := hv
          clear hv g0 q0
          by_cases he : low v = low ((S[k].toNat : Nat) : Int)
          · have hb0 : decide (low v = low ((S[k].toNat : Nat) : Int)) = true := decide_eq_true he
            have HE : Hid (low v = low ((S[k].toNat : Nat) : Int)) := he
            clear he
            go_wp2
            go_quiet ((go_at_call 13; exact Calls.quiet_of_same (fold_any _ _ _ (by omega) (by omega) (by omega) (by omega))))
            go_wp2
            go_roundw
            case rel => exact ⟨k + 1, by omega, rfl, by go_num, foldTo_succ hr.out V.out hks HE.out, below_drewN hb _⟩
            case measure => simp [intOf]; omega
          · have hb0 : decide (low v = low ((S[k].toNat : Nat) : Int)) = false := decide_eq_false he
            have HE : Hid (¬ low v = low ((S[k].toNat : Nat) : Int)) := he
            clear he
            go_wp2
            go_quiet ((go_at_call 13; exact Calls.quiet_of_same (fold_any _ _ _ (by omega) (by omega) (by omega) (by omega))))
            go_wp2_with fail
            refine (zeq_any _ _ zs S _ (by omega) (by omega) (by exact j0) HZ.out).mono ?_
            rintro e we ⟨r, rfl, hre, hbe⟩
            obtain rfl := same_bool' hre (fold_not V.out hks HE.out)
            clear hre
            go_wp2
            go_ret
            exact ⟨rfl, (below_drewN hbc _).trans (hbe.mono (by have := hbc.size; exact this))⟩
        · obtain rfl : k = zs.length := by omega
          go_wp2_with fail
          refine (zeq_any _ _ zs S _ (by omega) (by omega) (by exact j0) HZ.out).mono ?_
          rintro e we ⟨r, rfl, hre, hbe⟩
          obtain rfl := same_bool hre ⟨HL.out, hr.out⟩
          clear hre
          go_wp2
          go_ret
          exact ⟨rfl, hbc.trans (hbe.mono hbc.size)⟩
    · have hln : ((zs.length : Int) == (S.size : Int)) = false := by simp; omega
      have HL : Hid (¬ zs.length = S.size) := hlen
      clear hlen
      go_enter Try.func4, Try.ntmps4
      go_wp2_with fail
      refine (zzbz12_yes _ _ _ _ _ hs).mono ?_
      rintro e w' ⟨rfl, rfl⟩
      go_wp2_with fail
      refine (clone_any _ _ _ _ (by omega) h0 N0.out).mono ?_
      rintro e wb ⟨x0, d0, rfl, hi0, hbb⟩
      clear h0
      go_wp2_with fail
      refine (zeq_any _ _ zs S _ (by omega) (by omega) hi0 HZ.out).mono ?_
      rintro e we ⟨r, rfl, hre, hbe⟩
      obtain rfl := same_bool' hre (fun h => HL.out h.1)
      clear hre
      go_wp2
      go_ret
      exact ⟨rfl, hbb.trans (hbe.mono hbb.size)⟩
  · go_enter Try.func4, Try.ntmps4
    go_wp2_with fail
    refine (zzbz12_no _ _ _ _ _ (by omega) hm0 hm1).mono ?_
    rintro e w' ⟨rfl, rfl⟩
    go_wp2
    go_ret
    exact ⟨rfl, Below.refl _ _⟩
end Go.Proofs.Qxb6603232a
