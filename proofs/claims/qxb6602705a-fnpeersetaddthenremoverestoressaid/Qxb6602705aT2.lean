import Derived.Test.Qxb6602705aT1
import Derived.Deep.QuietTactic
import Derived.BigQuiet
import Derived.WalkSmall
namespace Go.Proofs.Qxb6602705a
open Go.RowKit
set_option linter.unusedVariables false

/-- The first k places are as the set's documentation asks. -/
def wfTo (ws bs : List Int) (k : Nat) : Prop :=
  ∀ i, i < k → ∃ v y, ws[i]? = some v ∧ bs[i]? = some y ∧ 0 ≤ v ∧ y ≠ 0 ∧ (0 < i → ∀ u, ws[i - 1]? = some u → u < v)
def WF (ws bs : List Int) : Prop := ws.length = bs.length ∧ wfTo ws bs ws.length

theorem wf_no {ws bs : List Int} {k : Nat} {v y : Int} (hk : k < ws.length) (hv : ws[k]? = some v) (hy : bs[k]? = some y) (h : v < 0 ∨ y = 0 ∨ ∃ u, 0 < k ∧ ws[k - 1]? = some u ∧ v ≤ u) : (false = true ↔ WF ws bs) := by
  refine ⟨fun e => by simp at e, fun H => ?_⟩
  obtain ⟨v', y', h1, h2, h3, h4, h5⟩ := H.2 k hk
  rw [hv] at h1; rw [hy] at h2
  obtain rfl : v = v' := by simpa using h1
  obtain rfl : y = y' := by simpa using h2
  rcases h with h | h | ⟨u, hu0, hu, hle⟩
  · omega
  · exact absurd h h4
  · have := h5 hu0 u hu; omega

theorem wfTo_succ {ws bs : List Int} {k : Nat} {v y : Int} (h : wfTo ws bs k) (hv : ws[k]? = some v) (hy : bs[k]? = some y) (hv0 : ¬ v < 0) (hy0 : ¬ y = 0) (hu : 0 < k → ∀ u, ws[k - 1]? = some u → u < v) : wfTo ws bs (k + 1) := by
  intro i hi
  by_cases e : i = k
  · subst e; exact ⟨v, y, hv, hy, by omega, hy0, hu⟩
  · exact h i (by omega)

/-- What the test of well-formedness answers, and what it leaves. -/
def WfSays (ws bs : List Int) (w : World) (e : Ending) (w' : World) : Prop := ∃ r : Bool, e = .returned (.bool r) ∧ (r = true ↔ WF ws bs) ∧ Below w.heap.size w w'

set_option maxHeartbeats 400000 in
theorem wf_any (a0 : Option Addr) (c0 : Nat) (a1 : Option Addr) (c1 : Nat) (ws bs : List Int) (w : World) (hl0 : ws.length ≤ 1048576) (hl1 : bs.length ≤ 1048576) (h0 : Ints .i64 w a0 ws) (h1 : Ints .u64 w a1 bs) :
    Calls Try.prog 13 #[.slice a0 ws.length c0, .slice a1 bs.length c1] w fun e w' => WfSays ws bs w e w' := by
  by_cases hlen : ws.length = bs.length
  · have HL : Hid (ws.length = bs.length) := hlen
    clear hlen
    have hln : ((ws.length : Int) != (bs.length : Int)) = false := by rw [HL.out]; simp
    go_enter Try.func13, Try.ntmps13
    go_wp2
    go_loopw [5] (fun i wr => ∃ k : Nat, k ≤ ws.length ∧ i = .int .i64 k ∧ Hid (wfTo ws bs k) ∧ Below w.heap.size w wr) (fun i _ => ws.length - (intOf i).toNat)
    case atStart => exact ⟨0, Nat.zero_le _, rfl, fun i hi => absurd hi (Nat.not_lt_zero _), Below.refl _ _⟩
    case round =>
      obtain ⟨k, hk, rfl, hr, hb⟩ := hrel
      by_cases hlt : k < ws.length
      · have hlt1 : k < bs.length := by have := HL.out; omega
        obtain ⟨b0, o0, e0, g0⟩ := h0.below hb
        obtain ⟨b1, o1, e1, g1⟩ := h1.below hb
        obtain ⟨v, hv⟩ := at_some hlt
        obtain ⟨y, hy⟩ := at_some hlt1
        have c0 := g0 k v hv
        have c1 := g1 k y hy
        obtain rfl := e0 (ne_nil hlt)
        obtain rfl := e1 (ne_nil hlt1)
        have V : Hid _ := hv; have Y : Hid _ := hy; have G0 : Hid _ := g0
        have B : Hid _ := hb
        clear hv hy e0 e1 g0 g1 hb
        by_cases hv0 : v < 0
        · go_wp2
          go_ret
          exact ⟨false, rfl, wf_no hlt V.out Y.out (Or.inl hv0), B.out⟩
        · by_cases hy0 : y = 0
          · have hyb : (y == 0) = true := by simp [hy0]
            have HY : Hid (y = 0) := hy0
            clear hy0
            go_wp2
            go_ret
            exact ⟨false, rfl, wf_no hlt V.out Y.out (Or.inr (Or.inl HY.out)), B.out⟩
          · have hyb : (y == 0) = false := by simp [hy0]
            have HY : Hid (¬ y = 0) := hy0
            clear hy0
            by_cases hk0 : 0 < k
            · obtain ⟨u, hu⟩ := at_some (show k - 1 < ws.length by omega)
              have c2 := G0.out (k - 1) u hu
              have U : Hid _ := hu
              clear hu
              have hki : (0 : Int) < (k : Int) := by omega
              by_cases huv : v ≤ u
              · go_wp2
                go_quiet (fail)
                go_wp2
                go_ret
                exact ⟨false, rfl, wf_no hlt V.out Y.out (Or.inr (Or.inr ⟨u, hk0, U.out, huv⟩)), below_drewN B.out _⟩
              · go_wp2
                go_quiet (fail)
                go_wp2
                go_roundw
                case rel => exact ⟨k + 1, by omega, by go_num, wfTo_succ hr.out V.out Y.out (by omega) HY.out (fun _ u' hu' => by have := U.out.symm.trans hu'; simp at this; omega), below_drewN B.out _⟩
                case measure => simp [intOf]; omega
            · have hd : decide ((0 : Int) < (k : Int)) = false := decide_eq_false (by omega)
              go_wp2
              go_quiet (fail)
              go_wp2
              go_roundw
              case rel => exact ⟨k + 1, by omega, by go_num, wfTo_succ hr.out V.out Y.out (by omega) HY.out (fun h => absurd h (by omega)), below_drewN B.out _⟩
              case measure => simp [intOf]; omega
      · go_wp2
        go_ret
        have e : k = ws.length := by omega
        subst e
        exact ⟨true, rfl, ⟨fun _ => ⟨HL.out, hr.out⟩, fun _ => rfl⟩, hb⟩
  · have hln : ((ws.length : Int) != (bs.length : Int)) = true := by simp; omega
    have HL : Hid (¬ ws.length = bs.length) := hlen
    clear hlen
    go_enter Try.func13, Try.ntmps13
    go_wp2
    go_ret
    exact ⟨false, rfl, ⟨fun h => by simp at h, fun h => absurd h.1 HL.out⟩, Below.refl _ _⟩
end Go.Proofs.Qxb6602705a
