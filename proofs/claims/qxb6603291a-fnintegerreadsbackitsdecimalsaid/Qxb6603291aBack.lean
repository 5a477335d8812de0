import Derived.Test.Qxb6603291aText
import Derived.Test.Qxb6603291aZint
namespace Go.Proofs.Qxb6603291a
open Go.RowKit
set_option linter.unusedVariables false

/-- THE PLAIN LAW: a number's text, between what stands ahead of it and what stands behind it and opens with no digit, is read back. -/
theorem back_plain {P ds S : List Int} {n : Int} (hc : Canon ds) (hv : dval ds = (n.natAbs : Int)) (hS : ∀ v, S[0]? = some v → ¬ Dig v) {neg : Bool} {en : Nat}
    (hneg : NegIs neg (P ++ (sign n ++ ds) ++ S) P.length) (hrun : Run (P ++ (sign n ++ ds) ++ S) (startOf neg P.length) en) :
    en = P.length + (sign n ++ ds).length ∧ en - startOf neg P.length = ds.length ∧ numOf neg (seg (P ++ (sign n ++ ds) ++ S) (startOf neg P.length) en) = n := by
  obtain ⟨d0, r0, rfl⟩ : ∃ d r, ds = d :: r := by
    cases ds with
    | nil => exact absurd rfl hc.1
    | cons d r => exact ⟨d, r, rfl⟩
  have hd0 := hc.2.1 d0 (by simp)
  -- the sign
  have hat : neg = decide (n < 0) ∧ startOf neg P.length = (P ++ sign n).length := by
    by_cases hn : n < 0
    · have hs : sign n = [45] := if_pos hn
      have : neg = true := hneg.2 (by rw [hs]; simp)
      subst this
      exact ⟨by simp [hn], by rw [hs]; simp [startOf]⟩
    · have hs : sign n = [] := if_neg hn
      have : neg = false := by
        cases neg with
        | false => rfl
        | true =>
          have := hneg.1 rfl
          rw [hs] at this
          simp at this
          rw [this] at hd0
          exact absurd hd0.1 (by omega)
      subst this
      exact ⟨by simp [hn], by rw [hs]; simp [startOf]⟩
  obtain ⟨hnd, hst⟩ := hat
  have hdoc : P ++ (sign n ++ (d0 :: r0)) ++ S = (P ++ sign n) ++ ((d0 :: r0) ++ S) := by simp
  have hrun2 : Run (P ++ (sign n ++ (d0 :: r0)) ++ S) (startOf neg P.length) ((P ++ sign n).length + (d0 :: r0).length) := by
    rw [hst, hdoc]
    refine ⟨by omega, fun i h1 h2 => ?_, fun v hv' => ?_⟩
    · rw [List.getElem?_append_right h1, List.getElem?_append_left (by omega)]
      have hi : i - (P ++ sign n).length < (d0 :: r0).length := by omega
      exact ⟨(d0 :: r0)[i - (P ++ sign n).length], by rw [List.getElem?_eq_getElem hi], hc.2.1 _ (List.getElem_mem _)⟩
    · rw [List.getElem?_append_right (by omega), List.getElem?_append_right (by omega), show (P ++ sign n).length + (d0 :: r0).length - (P ++ sign n).length - (d0 :: r0).length = 0 by omega] at hv'
      exact hS v hv'
  have hen := run_one hrun hrun2
  subst hen
  refine ⟨by simp [Nat.add_assoc], by rw [hst]; omega, ?_⟩
  have hseg : seg (P ++ (sign n ++ (d0 :: r0)) ++ S) (startOf neg P.length) ((P ++ sign n).length + (d0 :: r0).length) = d0 :: r0 := by
    rw [hst, hdoc]
    unfold seg
    rw [List.drop_left, show (P ++ sign n).length + (d0 :: r0).length - (P ++ sign n).length = (d0 :: r0).length by omega, List.take_left]
  rw [hseg, hnd]
  unfold numOf
  by_cases hn : n < 0
  · simp only [hn, decide_true, if_true, hv]; omega
  · simp only [hn, decide_false, Bool.false_eq_true, if_false, hv]; omega

theorem isdig11_any (v : Int) (w : World) : Calls Try.prog 11 #[.int .u8 v] w fun e w' => e = .returned (.bool (isDig v)) ∧ w' = w := by
  by_cases h : 48 ≤ v
  · by_cases h2 : v ≤ 57
    · have A : Hid (isDig v = true) := isDig_yes ⟨h, h2⟩
      have hd : decide (v ≤ 57) = true := decide_eq_true h2
      go_enter Try.func11, Try.ntmps11
      go_wp2
      go_ret
      exact ⟨by rw [A.out]; rfl, rfl⟩
    · have A : Hid (isDig v = false) := isDig_no (fun h => h2 h.2)
      have hd : decide (v ≤ 57) = false := decide_eq_false h2
      go_enter Try.func11, Try.ntmps11
      go_wp2
      go_ret
      exact ⟨by rw [A.out]; rfl, rfl⟩
  · have A : Hid (isDig v = false) := isDig_no (fun x => h x.1)
    have hd : decide (48 ≤ v) = false := decide_eq_false h
    go_enter Try.func11, Try.ntmps11
    go_wp2
    go_ret
    exact ⟨by rw [A.out]; rfl, rfl⟩

theorem zzbz14_yes (a0 : Option Addr) (n0 c0 : Nat) (a1 : Option Addr) (n1 c1 : Nat) (p : Int) (z : Bool) (w : World) (h0 : n0 + n1 ≤ 1048576) :
    Calls Try.prog 14 #[.slice a0 n0 c0, .slice a1 n1 c1, .int .i64 p, .bool z] w fun e w' => e = .returned (.bool true) ∧ w' = w := by
  go_enter Try.func14, Try.ntmps14
  go_wp2
  go_ret
  exact ⟨rfl, rfl⟩
theorem zzbz14_no (a0 : Option Addr) (n0 c0 : Nat) (a1 : Option Addr) (n1 c1 : Nat) (p : Int) (z : Bool) (w : World) (h0 : 1048576 < n0 + n1) (hm0 : n0 ≤ maxLen) (hm1 : n1 ≤ maxLen) :
    Calls Try.prog 14 #[.slice a0 n0 c0, .slice a1 n1 c1, .int .i64 p, .bool z] w fun e w' => e = .returned (.bool false) ∧ w' = w := by
  unfold maxLen at hm0 hm1
  by_cases h1 : n0 ≤ 1048576
  · by_cases h2 : n1 ≤ 1048576
    all_goals
      go_enter Try.func14, Try.ntmps14
      go_wp2
      go_ret
      exact ⟨rfl, rfl⟩
  · go_enter Try.func14, Try.ntmps14
    go_wp2
    go_ret
    exact ⟨rfl, rfl⟩
end Go.Proofs.Qxb6603291a
