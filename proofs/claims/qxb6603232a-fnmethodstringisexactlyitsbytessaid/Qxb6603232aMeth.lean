import Derived.Test.Qxb6603232aBase
import Derived.Laws.BytesArg
namespace Go.Proofs.Qxb6603232a
open Go.RowKit
set_option linter.unusedVariables false

/-- 'string(m)', m whatever slice of bytes: nil, empty or not. -/
theorem run_str (w : World) (a : Option Addr) (c : Nat) (zs : List Int) (h : Ints .u8 w a zs) : (convert 22 9 (.slice a zs.length c)).run Try.prog w = .ok (.string (strOfNums zs)) w := by
  obtain ⟨b, off, h1, h2⟩ := h
  by_cases hz : zs = []
  · subst hz
    cases a with
    | none => exact run_convert_bytes_nil w 22 5 Try.underlying22 Try.underlying5 0 c 9 Try.underlying9
    | some x =>
      rw [run_convert_bytes_string w 22 9 5 _ _ c Try.underlying22 Try.underlying5 Try.underlying9]
      rw [run_bytesToString w x _ c [] (by simp [loadCells, loadCellsFrom])]
      rfl
  · rw [h1 hz]
    refine run_convert_bytes_arg w 22 5 Try.underlying22 Try.underlying5 b off zs.length c zs rfl (fun i hi => ?_) 9 Try.underlying9
    exact h2 i _ (by simp [List.getD, hi])

theorem str_of {S : ByteArray} {l : List UInt8} (h : (S.toList == l) = true) : Ending.returned (.string ⟨l.toArray⟩) = .returned (.string S) := by
  rw [ByteArray.toList_eq, beq_iff_eq] at h
  subst h
  rfl

theorem meth_any (a : Option Addr) (c : Nat) (zs : List Int) (w : World) (hl : zs.length ≤ 1048576) (h : Ints .u8 w a zs) :
    Calls Try.prog 20 #[.slice a zs.length c] w fun e w' => e = .returned (.string (strOfNums zs)) ∧ w' = w := by
  have hc := run_str w a c zs h
  generalize strOfNums zs = S at *
  clear h
  go_enter Try.func20, Try.ntmps20
  go_wp2
  all_goals go_ret
  · exact ⟨str_of (l := [71, 69, 84]) ‹_›, rfl⟩
  · exact ⟨str_of (l := [72, 69, 65, 68]) ‹_›, rfl⟩
  · exact ⟨str_of (l := [80, 79, 83, 84]) ‹_›, rfl⟩
  · exact ⟨str_of (l := [80, 85, 84]) ‹_›, rfl⟩
  · exact ⟨str_of (l := [68, 69, 76, 69, 84, 69]) ‹_›, rfl⟩
  · exact ⟨str_of (l := [67, 79, 78, 78, 69, 67, 84]) ‹_›, rfl⟩
  · exact ⟨str_of (l := [79, 80, 84, 73, 79, 78, 83]) ‹_›, rfl⟩
  · exact ⟨str_of (l := [84, 82, 65, 67, 69]) ‹_›, rfl⟩
  · exact ⟨str_of (l := [80, 65, 84, 67, 72]) ‹_›, rfl⟩
  · exact ⟨rfl, rfl⟩

theorem zmeth_any (a : Option Addr) (c : Nat) (zs : List Int) (w : World) (hl : zs.length ≤ 1048576) (h : Ints .u8 w a zs) :
    Calls Try.prog 11 #[.slice a zs.length c] w fun e w' => e = .returned (.string (strOfNums zs)) ∧ w' = w := by
  have hc := meth_any a c zs w hl h
  generalize strOfNums zs = S at *
  have HC : Hid _ := hc
  clear hc h
  go_enter Try.func11, Try.ntmps11
  go_wp2_with fail
  refine Calls.mono HC.out ?_
  rintro e w' ⟨rfl, rfl⟩
  go_wp2
  go_ret
  exact ⟨rfl, rfl⟩

theorem zzbz9_yes (a0 : Option Addr) (n0 c0 : Nat) (w : World) (h0 : n0 ≤ 1048576) :
    Calls Try.prog 9 #[.slice a0 n0 c0] w fun e w' => e = .returned (.bool true) ∧ w' = w := by
  go_enter Try.func9, Try.ntmps9
  go_wp2
  go_ret
  exact ⟨rfl, rfl⟩
theorem zzbz9_no (a0 : Option Addr) (n0 c0 : Nat) (w : World) (h0 : 1048576 < n0) :
    Calls Try.prog 9 #[.slice a0 n0 c0] w fun e w' => e = .returned (.bool false) ∧ w' = w := by
  go_enter Try.func9, Try.ntmps9
  go_wp2
  go_ret
  exact ⟨rfl, rfl⟩

/-- A byte of the string is the number it was made of. -/
theorem byte_at {zs : List Int} {S : ByteArray} (hS : S = strOfNums zs) (hz : ∀ v ∈ zs, 0 ≤ v ∧ v ≤ 255) {k : Nat} {v : Int} (hv : zs[k]? = some v) (hk : k < S.size) : ((S[k].toNat : Nat) : Int) = v := by
  subst hS
  have hb := hz v (List.mem_of_getElem? hv)
  obtain ⟨h1, h2⟩ := List.getElem?_eq_some_iff.1 hv
  have : (strOfNums zs)[k] = UInt8.ofNat v.toNat := by
    show (strOfNums zs).data[k] = _
    simp [strOfNums, h2]
  rw [this]
  simp
  omega

theorem law3 (a0 : Option Addr) (c0 : Nat) (zs : List Int) (w : World) (hm0 : zs.length ≤ maxLen) (h0 : Ints .u8 w a0 zs) (n0 : a0 = none → zs = []) (hz : ∀ v ∈ zs, 0 ≤ v ∧ v ≤ 255) :
    Calls Try.prog 3 #[.slice a0 zs.length c0] w fun e w' => Done w e w' := by
  have HZ : Hid (∀ v ∈ zs, 0 ≤ v ∧ v ≤ 255) := hz
  have N0 : Hid (a0 = none → zs = []) := n0
  clear hz n0
  by_cases hs : zs.length ≤ 1048576
  · have hd0 : decide ((1048576 : Int) < (zs.length : Int)) = false := decide_eq_false (by omega)
    go_enter Try.func3, Try.ntmps3
    go_wp2_with fail
    refine (zzbz9_yes _ _ _ _ hs).mono ?_
    rintro e w' ⟨rfl, rfl⟩
    go_wp2_with fail
    refine (clone_any _ _ _ _ hs h0 N0.out).mono ?_
    rintro e wb ⟨x0, d0, rfl, hi0, hbb⟩
    clear h0
    go_wp2_with fail
    refine (zmeth_any _ _ _ _ hs hi0).mono ?_
    rintro e wc ⟨rfl, rfl⟩
    obtain ⟨S, hS⟩ : ∃ S, S = strOfNums zs := ⟨_, rfl⟩
    rw [← hS]
    have HS : Hid (S = strOfNums zs) := hS
    have hsz : S.size = zs.length := by rw [hS]; exact strOfNums_size zs
    have HSZ : Hid (S.size = zs.length) := hsz
    have hne : ((S.size : Int) != (zs.length : Int)) = false := by rw [hsz]; simp
    have hle : S.size ≤ 1048576 := by omega
    clear hS hsz
    go_wp2
    go_loopw [4] (fun i wr => ∃ k : Nat, k ≤ zs.length ∧ i = .int .i64 k ∧ Below wc.heap.size wc wr) (fun i _ => zs.length - (intOf i).toNat)
    case atStart => exact ⟨0, Nat.zero_le _, rfl, Below.refl _ _⟩
    case round =>
      obtain ⟨k, hk, rfl, hb⟩ := hrel
      by_cases hlt : k < zs.length
      · obtain ⟨b0, o0, q0, g0⟩ := hi0.below hb
        obtain ⟨v, hv⟩ := at_some hlt
        have z0 := g0 k v hv
        obtain rfl := q0 (ne_nil hlt)
        have hks : k < S.size := by rw [HSZ.out]; exact hlt
        have hks' : (k : Int) < (S.size : Int) := by omega
        have t : (((S[k].toNat : Nat) : Int) != v) = false := by rw [byte_at HS.out HZ.out hv hks]; simp
        clear hv g0 q0
        go_wp2
        go_quiet (fail)
        go_wp2
        go_roundw
        case rel => exact ⟨k + 1, by omega, by go_num, below_drewN hb _⟩
        case measure => simp [intOf]; omega
      · go_wp2
        go_ret
        exact ⟨rfl, hbb.trans (hb.mono hbb.size)⟩
  · unfold maxLen at hm0
    go_enter Try.func3, Try.ntmps3
    go_wp2_with fail
    refine (zzbz9_no _ _ _ _ (by omega)).mono ?_
    rintro e w' ⟨rfl, rfl⟩
    go_wp2
    go_ret
    exact ⟨rfl, Below.refl _ _⟩
end Go.Proofs.Qxb6603232a
