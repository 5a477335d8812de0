import Derived.Test.Qxb6602705aT8
import Derived.OpenShut
namespace Go.Proofs.Qxb6602705a
open Go.RowKit
set_option linter.unusedVariables false

theorem row_ints {k : IntKind} {w : World} {a : Option Addr} {len cap : Nat} {zs : List Int}
    (h : (a = none ∧ len = 0 ∧ cap = 0 ∧ zs = []) ∨ ∃ x, a = some x ∧ len ≤ cap ∧ cap ≤ maxLen ∧ zs.length = cap ∧ (∀ i, i < zs.length → w.cell? (x.add i) = some (.int k (zs.getD i 0))) ∧ ∀ n ∈ zs, (Lit.int k n).wf = true) :
    ∃ ws : List Int, ws.length = len ∧ Ints k w a ws ∧ (a = none → ws = []) ∧ len ≤ maxLen ∧ ∀ v ∈ ws, (Lit.int k v).wf = true := by
  rcases h with ⟨rfl, rfl, rfl, rfl⟩ | ⟨x, rfl, h1, h2, h3, h4, h5⟩
  · exact ⟨[], rfl, ⟨0, 0, fun h => absurd rfl h, fun i x hx => by simp at hx⟩, fun _ => rfl, Nat.zero_le _, fun v hv => by simp at hv⟩
  · refine ⟨zs.take len, by simp; omega, ?_, fun h => by simp at h, by omega, fun v hv => h5 v (List.mem_of_mem_take hv)⟩
    obtain ⟨b, off, spot⟩ := x
    refine ⟨b, off, fun hne => ?_, fun i v hv => ?_⟩
    · have h0 : 0 < zs.length := by
        rcases Nat.eq_zero_or_pos zs.length with e | e
        · exact absurd (by rw [List.length_eq_zero_iff.1 e]; simp) hne
        · exact e
      have hspot : spot = none := by simpa [Addr.add] using World.cell?_spot (h4 0 h0)
      rw [hspot]
    · rw [List.getElem?_take] at hv
      split at hv
      · have hi : i < zs.length := (List.getElem?_eq_some_iff.1 hv).1
        have hspot : spot = none := by simpa [Addr.add] using World.cell?_spot (h4 0 (by omega))
        subst hspot
        have := h4 i hi
        rw [Addr.add_lit] at this
        rw [this, List.getD, hv]; rfl
      · simp at hv

theorem mask_any (p x : Int) (w : World) (h0 : 0 ≤ p) (hp : p ≤ 9223372036854775807) :
    Calls Try.prog 18 #[.int .i64 p, .int .i64 x] w fun e w' => e = .returned (.int .u64 (mask p x)) ∧ w' = w := by
  by_cases h : x = p / 64
  · have HX : Hid (x = p / 64) := h
    have hx : (x == p / 64) = true := by simp [h]
    clear h
    go_enter Try.func18, Try.ntmps18
    go_wp2
    go_ret
    exact ⟨ret_int (by rw [mask, if_pos HX.out]; rfl), rfl⟩
  · have HX : Hid (¬ x = p / 64) := h
    have hx : (x == p / 64) = false := by simp [h]
    clear h
    go_enter Try.func18, Try.ntmps18
    go_wp2
    go_ret
    exact ⟨ret_int (by rw [mask, if_neg HX.out]), rfl⟩

/-- Where a law ends. -/
def Done (w : World) (e : Ending) (w' : World) : Prop := e = .returned (.bool true) ∧ Below w.heap.size w w'

theorem zzbz12_yes (a0 : Option Addr) (n0 c0 : Nat) (a1 : Option Addr) (n1 c1 : Nat) (p : Int) (w : World) (h0 : n0 + n1 ≤ 1048576) :
    Calls Try.prog 12 #[.slice a0 n0 c0, .slice a1 n1 c1, .int .i64 p] w fun e w' => e = .returned (.bool true) ∧ w' = w := by
  go_enter Try.func12, Try.ntmps12
  go_wp2
  go_ret
  exact ⟨rfl, rfl⟩
theorem zzbz12_no (a0 : Option Addr) (n0 c0 : Nat) (a1 : Option Addr) (n1 c1 : Nat) (p : Int) (w : World) (h0 : 1048576 < n0 + n1) (hm0 : n0 ≤ maxLen) (hm1 : n1 ≤ maxLen) :
    Calls Try.prog 12 #[.slice a0 n0 c0, .slice a1 n1 c1, .int .i64 p] w fun e w' => e = .returned (.bool false) ∧ w' = w := by
  unfold maxLen at hm0 hm1
  by_cases h1 : n0 ≤ 1048576
  · by_cases h2 : n1 ≤ 1048576
    all_goals
      go_enter Try.func12, Try.ntmps12
      go_wp2
      go_ret
      exact ⟨rfl, rfl⟩
  · go_enter Try.func12, Try.ntmps12
    go_wp2
    go_ret
    exact ⟨rfl, rfl⟩

theorem zzbz19_yes (a0 : Option Addr) (n0 c0 : Nat) (a1 : Option Addr) (n1 c1 : Nat) (p : Int) (w : World) (h0 : n0 + n1 ≤ 1048576) :
    Calls Try.prog 19 #[.slice a0 n0 c0, .slice a1 n1 c1, .int .i64 p] w fun e w' => e = .returned (.bool true) ∧ w' = w := by
  go_enter Try.func19, Try.ntmps19
  go_wp2
  go_ret
  exact ⟨rfl, rfl⟩
theorem zzbz19_no (a0 : Option Addr) (n0 c0 : Nat) (a1 : Option Addr) (n1 c1 : Nat) (p : Int) (w : World) (h0 : 1048576 < n0 + n1) (hm0 : n0 ≤ maxLen) (hm1 : n1 ≤ maxLen) :
    Calls Try.prog 19 #[.slice a0 n0 c0, .slice a1 n1 c1, .int .i64 p] w fun e w' => e = .returned (.bool false) ∧ w' = w := by
  unfold maxLen at hm0 hm1
  by_cases h1 : n0 ≤ 1048576
  · by_cases h2 : n1 ≤ 1048576
    all_goals
      go_enter Try.func19, Try.ntmps19
      go_wp2
      go_ret
      exact ⟨rfl, rfl⟩
  · go_enter Try.func19, Try.ntmps19
    go_wp2
    go_ret
    exact ⟨rfl, rfl⟩

theorem zzbz23_yes (a0 : Option Addr) (n0 c0 : Nat) (a1 : Option Addr) (n1 c1 : Nat) (p : Int) (w : World) (h0 : n0 + n1 ≤ 1048576) :
    Calls Try.prog 23 #[.slice a0 n0 c0, .slice a1 n1 c1, .int .i64 p] w fun e w' => e = .returned (.bool true) ∧ w' = w := by
  go_enter Try.func23, Try.ntmps23
  go_wp2
  go_ret
  exact ⟨rfl, rfl⟩
theorem zzbz23_no (a0 : Option Addr) (n0 c0 : Nat) (a1 : Option Addr) (n1 c1 : Nat) (p : Int) (w : World) (h0 : 1048576 < n0 + n1) (hm0 : n0 ≤ maxLen) (hm1 : n1 ≤ maxLen) :
    Calls Try.prog 23 #[.slice a0 n0 c0, .slice a1 n1 c1, .int .i64 p] w fun e w' => e = .returned (.bool false) ∧ w' = w := by
  unfold maxLen at hm0 hm1
  by_cases h1 : n0 ≤ 1048576
  · by_cases h2 : n1 ≤ 1048576
    all_goals
      go_enter Try.func23, Try.ntmps23
      go_wp2
      go_ret
      exact ⟨rfl, rfl⟩
  · go_enter Try.func23, Try.ntmps23
    go_wp2
    go_ret
    exact ⟨rfl, rfl⟩

theorem zzbz24_yes (a0 : Option Addr) (n0 c0 : Nat) (a1 : Option Addr) (n1 c1 : Nat) (p : Int) (w : World) (h0 : n0 + n1 ≤ 1048576) :
    Calls Try.prog 24 #[.slice a0 n0 c0, .slice a1 n1 c1, .int .i64 p] w fun e w' => e = .returned (.bool true) ∧ w' = w := by
  go_enter Try.func24, Try.ntmps24
  go_wp2
  go_ret
  exact ⟨rfl, rfl⟩
theorem zzbz24_no (a0 : Option Addr) (n0 c0 : Nat) (a1 : Option Addr) (n1 c1 : Nat) (p : Int) (w : World) (h0 : 1048576 < n0 + n1) (hm0 : n0 ≤ maxLen) (hm1 : n1 ≤ maxLen) :
    Calls Try.prog 24 #[.slice a0 n0 c0, .slice a1 n1 c1, .int .i64 p] w fun e w' => e = .returned (.bool false) ∧ w' = w := by
  unfold maxLen at hm0 hm1
  by_cases h1 : n0 ≤ 1048576
  · by_cases h2 : n1 ≤ 1048576
    all_goals
      go_enter Try.func24, Try.ntmps24
      go_wp2
      go_ret
      exact ⟨rfl, rfl⟩
  · go_enter Try.func24, Try.ntmps24
    go_wp2
    go_ret
    exact ⟨rfl, rfl⟩
end Go.Proofs.Qxb6602705a
