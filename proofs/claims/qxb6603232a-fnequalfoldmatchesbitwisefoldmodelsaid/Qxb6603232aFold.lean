import Derived.Test.Qxb6603232aBase
import Derived.Laws.BitsAllLaws
namespace Go.Proofs.Qxb6603232a
open Go.RowKit
set_option linter.unusedVariables false

/-- A byte's lower case. -/
def low (c : Int) : Int := if 65 ≤ c ∧ c ≤ 90 then c + 32 else c
def lowN (c : Nat) : Nat := if 65 ≤ c ∧ c ≤ 90 then c + 32 else c
theorem low_nat (c : Nat) : low (c : Int) = (lowN c : Int) := by
  unfold low lowN
  by_cases h : 65 ≤ c ∧ c ≤ 90
  · rw [if_pos h, if_pos (by omega)]; omega
  · rw [if_neg h, if_neg (by omega)]

/-- The byte that differs from c in bit 0x20 alone, where c is a letter by that bit, has c's lower case. -/
theorem flip_low : ∀ c : Fin 256, (97 ≤ c.val ||| 32 ∧ c.val ||| 32 ≤ 122) → lowN c.val = lowN (c.val ^^^ 32) := by decide +kernel
/-- A capital and its small letter. -/
theorem cap_bits : ∀ c : Fin 91, 65 ≤ c.val → (c.val ^^^ (c.val + 32) = 32 ∧ (c.val + 32) ^^^ c.val = 32 ∧ 97 ≤ c.val ||| 32 ∧ c.val ||| 32 ≤ 122 ∧ 97 ≤ (c.val + 32) ||| 32 ∧ (c.val + 32) ||| 32 ≤ 122) := by decide +kernel

theorem fold_iff (c d : Nat) (hc : c < 256) (hd : d < 256) : (c = d ∨ (c ^^^ d = 32 ∧ 97 ≤ c ||| 32 ∧ c ||| 32 ≤ 122)) ↔ lowN c = lowN d := by
  constructor
  · rintro (rfl | ⟨h1, h2⟩)
    · rfl
    · have e : d = c ^^^ 32 := by rw [← h1, ← Nat.xor_assoc, Nat.xor_self, Nat.zero_xor]
      rw [e]
      exact flip_low ⟨c, hc⟩ h2
  · intro h
    unfold lowN at h
    by_cases hcu : 65 ≤ c ∧ c ≤ 90
    · by_cases hdu : 65 ≤ d ∧ d ≤ 90
      · rw [if_pos hcu, if_pos hdu] at h; exact Or.inl (by omega)
      · rw [if_pos hcu, if_neg hdu] at h
        have := cap_bits ⟨c, by omega⟩ hcu.1
        rw [← h]
        exact Or.inr ⟨this.1, this.2.2.1, this.2.2.2.1⟩
    · by_cases hdu : 65 ≤ d ∧ d ≤ 90
      · rw [if_neg hcu, if_pos hdu] at h
        have := cap_bits ⟨d, by omega⟩ hdu.1
        rw [h]
        exact Or.inr ⟨this.2.1, this.2.2.2.2.1, this.2.2.2.2.2⟩
      · rw [if_neg hcu, if_neg hdu] at h; exact Or.inl h

theorem lower_any (c : Int) (w : World) (h0 : 0 ≤ c) (h1 : c ≤ 255) :
    Calls Try.prog 24 #[.int .u8 c] w fun e w' => e = .returned (.int .u8 (low c)) ∧ w' = w := by
  by_cases h : 65 ≤ c
  · by_cases h2 : c ≤ 90
    · have e : Hid (low c = c + 32) := by unfold low; exact if_pos ⟨h, h2⟩
      go_enter Try.func24, Try.ntmps24
      go_wp2
      go_ret
      exact ⟨ret_int e.out.symm, rfl⟩
    · have e : Hid (low c = c) := by unfold low; exact if_neg (by omega)
      go_enter Try.func24, Try.ntmps24
      go_wp2
      go_ret
      exact ⟨ret_int e.out.symm, rfl⟩
  · have e : Hid (low c = c) := by unfold low; exact if_neg (by omega)
    go_enter Try.func24, Try.ntmps24
    go_wp2
    go_ret
    exact ⟨ret_int e.out.symm, rfl⟩

/-- What the bit model answers of two bytes. -/
def FoldSays (c d : Int) (w : World) (e : Ending) (w' : World) : Prop := e = .returned (.bool (decide (low c = low d))) ∧ w' = w

theorem fold_any (c d : Int) (w : World) (hc0 : 0 ≤ c) (hc1 : c ≤ 255) (hd0 : 0 ≤ d) (hd1 : d ≤ 255) :
    Calls Try.prog 13 #[.int .u8 c, .int .u8 d] w fun e w' => FoldSays c d w e w' := by
  obtain ⟨C, rfl⟩ := Int.eq_ofNat_of_zero_le hc0
  obtain ⟨D, rfl⟩ := Int.eq_ofNat_of_zero_le hd0
  have hx : bits .xor .u8 (C : Int) (D : Int) = ((C ^^^ D : Nat) : Int) := u8_xor_nat C D (by omega) (by omega)
  have ho : bits .or .u8 (C : Int) 32 = ((C ||| 32 : Nat) : Int) := u8_or_nat C 32 (by omega) (by omega)
  have hi : Hid ((C = D ∨ (C ^^^ D = 32 ∧ 97 ≤ C ||| 32 ∧ C ||| 32 ≤ 122)) ↔ lowN C = lowN D) := fold_iff C D (by omega) (by omega)
  have hl : Hid ((low (C : Int) = low (D : Int)) ↔ lowN C = lowN D) := by show _ ↔ _; rw [low_nat, low_nat]; omega
  generalize C ^^^ D = X at *
  generalize C ||| 32 = O at *
  have yes : lowN C = lowN D → Hid (decide (low (C : Int) = low (D : Int)) = true) := fun h => decide_eq_true (hl.out.2 h)
  have no : ¬ lowN C = lowN D → Hid (decide (low (C : Int) = low (D : Int)) = false) := fun h => decide_eq_false (fun x => h (hl.out.1 x))
  by_cases e1 : C = D
  · have A := yes (hi.out.1 (Or.inl e1))
    have hb : ((C : Int) == (D : Int)) = true := by simp [e1]
    clear e1 yes no hi hl
    go_enter Try.func13, Try.ntmps13
    go_wp2
    go_ret
    exact ⟨by rw [A.out]; rfl, rfl⟩
  · have hb : ((C : Int) == (D : Int)) = false := by simp; omega
    by_cases e2 : X = 32
    · have hb2 : ((X : Int) != 32) = false := by simp [e2]
      by_cases e3 : 97 ≤ O
      · by_cases e4 : O ≤ 122
        · have A := yes (hi.out.1 (Or.inr ⟨e2, e3, e4⟩))
          have hd : decide ((O : Int) ≤ 122) = true := decide_eq_true (by omega)
          clear e1 e2 yes no hi hl
          go_enter Try.func13, Try.ntmps13
          go_wp2
          go_ret
          exact ⟨by rw [A.out]; rfl, rfl⟩
        · have A := no (fun h => by rcases hi.out.2 h with h | h <;> omega)
          have hd : decide ((O : Int) ≤ 122) = false := decide_eq_false (by omega)
          clear e1 e2 yes no hi hl
          go_enter Try.func13, Try.ntmps13
          go_wp2
          go_ret
          exact ⟨by rw [A.out]; rfl, rfl⟩
      · have A := no (fun h => by rcases hi.out.2 h with h | h <;> omega)
        clear e1 e2 yes no hi hl
        go_enter Try.func13, Try.ntmps13
        go_wp2
        go_ret
        exact ⟨by rw [A.out]; rfl, rfl⟩
    · have hb2 : ((X : Int) != 32) = true := by simp; omega
      have A := no (fun h => by rcases hi.out.2 h with h | h <;> omega)
      clear e1 e2 yes no hi hl
      go_enter Try.func13, Try.ntmps13
      go_wp2
      go_ret
      exact ⟨by rw [A.out]; rfl, rfl⟩

/-- The slice and the string agree, case apart, in their first k places. -/
def FoldTo (zs : List Int) (S : ByteArray) (k : Nat) : Prop := ∀ (i : Nat) (v : Int) (d : UInt8), i < k → zs[i]? = some v → S.data.toList[i]? = some d → low v = low (d.toNat : Int)
def Folds (zs : List Int) (S : ByteArray) : Prop := zs.length = S.size ∧ FoldTo zs S zs.length

theorem byte_some (S : ByteArray) (k : Nat) (h : k < S.size) : S.data.toList[k]? = some S[k] := by
  have h' : k < S.data.toList.length := by simpa using h
  rw [List.getElem?_eq_getElem h']
  rfl
theorem foldTo_succ {zs : List Int} {S : ByteArray} {k : Nat} {v : Int} (h : FoldTo zs S k) (hv : zs[k]? = some v) (hk : k < S.size) (he : low v = low (S[k].toNat : Int)) : FoldTo zs S (k + 1) := by
  intro i v' d hi hv' hd
  by_cases e : i = k
  · subst e
    rw [hv] at hv'; rw [byte_some S i hk] at hd
    obtain rfl : v = v' := by simpa using hv'
    obtain rfl : S[i] = d := by simpa using hd
    exact he
  · exact h i v' d (by omega) hv' hd
theorem fold_not {zs : List Int} {S : ByteArray} {k : Nat} {v : Int} (hv : zs[k]? = some v) (hk : k < S.size) (he : ¬ low v = low (S[k].toNat : Int)) : ¬ Folds zs S := by
  intro h
  exact he (h.2 k v S[k] (List.getElem?_eq_some_iff.1 hv).1 hv (byte_some S k hk))

/-- What equalFold answers, and what it leaves. -/
def EqSays (zs : List Int) (S : ByteArray) (w : World) (e : Ending) (w' : World) : Prop := ∃ r : Bool, e = .returned (.bool r) ∧ (r = true ↔ Folds zs S) ∧ Below w.heap.size w w'

theorem byte_bd (S : ByteArray) (k : Nat) (h : k < S.size) : (0 : Int) ≤ ((S[k].toNat : Nat) : Int) ∧ ((S[k].toNat : Nat) : Int) ≤ 255 := by
  have := S[k].toNat_lt
  omega

set_option maxHeartbeats 400000 in
theorem eq_any (a0 : Option Addr) (c0 : Nat) (zs : List Int) (S : ByteArray) (w : World) (hl : zs.length ≤ 1048576) (hS : S.size ≤ 1048576) (h0 : Ints .u8 w a0 zs) (hz : ∀ v ∈ zs, 0 ≤ v ∧ v ≤ 255) :
    Calls Try.prog 21 #[.slice a0 zs.length c0, .string S] w fun e w' => EqSays zs S w e w' := by
  have HZ : Hid (∀ v ∈ zs, 0 ≤ v ∧ v ≤ 255) := hz
  clear hz
  by_cases hlen : zs.length = S.size
  · have HL : Hid (zs.length = S.size) := hlen
    have hln : ((zs.length : Int) != (S.size : Int)) = false := by rw [hlen]; simp
    clear hlen
    go_enter Try.func21, Try.ntmps21
    go_wp2
    go_loopw [14] (fun i wr => ∃ k : Nat, k ≤ zs.length ∧ i = .int .i64 k ∧ Hid (FoldTo zs S k) ∧ Below w.heap.size w wr) (fun i _ => zs.length - (intOf i).toNat)
    case atStart => exact ⟨0, Nat.zero_le _, rfl, fun i v d hi => absurd hi (Nat.not_lt_zero _), Below.refl _ _⟩
    case round =>
      obtain ⟨k, hk, rfl, hr, hb⟩ := hrel
      by_cases hlt : k < zs.length
      · obtain ⟨b0, o0, q0, g0⟩ := h0.below hb
        obtain ⟨v, hv⟩ := at_some hlt
        have z0 := g0 k v hv
        obtain rfl := q0 (ne_nil hlt)
        have hks : k < S.size := by rw [← HL.out]; exact hlt
        have hks' : (k : Int) < (S.size : Int) := by omega
        have hvb := HZ.out v (List.mem_of_getElem? hv)
        have hsb := byte_bd S k hks
        have V : Hid (zs[k]? = some v) := hv
        clear hv g0 q0 h0
        by_cases he : low v = low ((S[k].toNat : Nat) : Int)
        · have hb0 : (low v != low ((S[k].toNat : Nat) : Int)) = false := by simp [he]
          have HE : Hid (low v = low ((S[k].toNat : Nat) : Int)) := he
          clear he
          go_wp2
          go_quiet ((go_at_call 24; exact Calls.quiet_of_same (lower_any _ _ (by omega) (by omega))))
          go_wp2
          go_roundw
          case rel => exact ⟨k + 1, by omega, by go_num, foldTo_succ hr.out V.out hks HE.out, below_drewN hb _⟩
          case measure => simp [intOf]; omega
        · have hb0 : (low v != low ((S[k].toNat : Nat) : Int)) = true := by simp [he]
          have HE : Hid (¬ low v = low ((S[k].toNat : Nat) : Int)) := he
          clear he
          go_wp2
          go_quiet ((go_at_call 24; exact Calls.quiet_of_same (lower_any _ _ (by omega) (by omega))))
          go_wp2
          go_ret
          exact ⟨false, rfl, ⟨fun h => by simp at h, fun h => absurd h (fold_not V.out hks HE.out)⟩, below_drewN hb _⟩
      · go_wp2
        go_ret
        obtain rfl : k = zs.length := by omega
        exact ⟨true, rfl, ⟨fun _ => ⟨HL.out, hr.out⟩, fun _ => rfl⟩, hb⟩
  · have hln : ((zs.length : Int) != (S.size : Int)) = true := by simp; omega
    have HL : Hid (¬ zs.length = S.size) := hlen
    clear hlen
    go_enter Try.func21, Try.ntmps21
    go_wp2
    go_ret
    exact ⟨false, rfl, ⟨fun h => by simp at h, fun h => absurd h.1 HL.out⟩, Below.refl _ _⟩

theorem zeq_any (a0 : Option Addr) (c0 : Nat) (zs : List Int) (S : ByteArray) (w : World) (hl : zs.length ≤ 1048576) (hS : S.size ≤ 1048576) (h0 : Ints .u8 w a0 zs) (hz : ∀ v ∈ zs, 0 ≤ v ∧ v ≤ 255) :
    Calls Try.prog 14 #[.slice a0 zs.length c0, .string S] w fun e w' => EqSays zs S w e w' := by
  have HZ : Hid (∀ v ∈ zs, 0 ≤ v ∧ v ≤ 255) := hz
  clear hz
  go_enter Try.func14, Try.ntmps14
  go_wp2_with fail
  refine (eq_any _ _ _ _ _ hl hS h0 HZ.out).mono ?_
  rintro e w' ⟨r, rfl, hr, hb⟩
  have HR : Hid (r = true ↔ Folds zs S) := hr
  clear hr
  go_wp2
  go_ret
  exact ⟨r, rfl, HR.out, hb⟩
end Go.Proofs.Qxb6603232a
