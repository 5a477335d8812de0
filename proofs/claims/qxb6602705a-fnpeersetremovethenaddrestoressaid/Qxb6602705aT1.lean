import Derived.Test.Qxb6602705aBase
namespace Go.Proofs.Qxb6602705a
open Go.RowKit
set_option linter.unusedVariables false

theorem ret_int {k : IntKind} {a b : Int} (h : a = b) : Ending.returned (.int k a) = .returned (.int k b) := by rw [h]

/-- The bits at word x, by a linear search. -/
def get : List Int → List Int → Int → Int
  | v :: ws, y :: bs, x => if v = x then y else get ws bs x
  | _, _, _ => 0
theorem drop_at {ws : List Int} {k : Nat} {v : Int} (h : ws[k]? = some v) : ws.drop k = v :: ws.drop (k + 1) := by
  obtain ⟨h1, h2⟩ := List.getElem?_eq_some_iff.1 h
  rw [List.drop_eq_getElem_cons h1, h2]
theorem get_hit {ws bs : List Int} {k : Nat} {x y : Int} (h0 : ws[k]? = some x) (h1 : bs[k]? = some y) : get (ws.drop k) (bs.drop k) x = y := by
  rw [drop_at h0, drop_at h1]; simp [get]
theorem get_miss {ws bs : List Int} {k : Nat} {v x y : Int} (h0 : ws[k]? = some v) (h1 : bs[k]? = some y) (hne : ¬ v = x) : get (ws.drop (k + 1)) (bs.drop (k + 1)) x = get (ws.drop k) (bs.drop k) x := by
  rw [drop_at h0, drop_at h1]; simp [get, hne]
theorem get_end {ws bs : List Int} {k : Nat} {x : Int} (h : ws.length ≤ k ∨ bs.length ≤ k) : get (ws.drop k) (bs.drop k) x = 0 := by
  rcases h with h | h
  · rw [List.drop_eq_nil_of_le h]; simp [get]
  · rw [List.drop_eq_nil_of_le h]; cases ws.drop k <;> simp [get]

/-- A number of a list, at a place within it. -/
theorem at_some {zs : List Int} {k : Nat} (h : k < zs.length) : ∃ x, zs[k]? = some x := ⟨zs[k], by simp [h]⟩
theorem ne_nil {zs : List Int} {k : Nat} (h : k < zs.length) : zs ≠ [] := by intro e; subst e; simp at h

theorem get_any (a0 : Option Addr) (c0 : Nat) (a1 : Option Addr) (c1 : Nat) (ws bs : List Int) (x : Int) (w : World) (hl0 : ws.length ≤ 1048576) (hl1 : bs.length ≤ 1048576) (h0 : Ints .i64 w a0 ws) (h1 : Ints .u64 w a1 bs) :
    Calls Try.prog 17 #[.slice a0 ws.length c0, .slice a1 bs.length c1, .int .i64 x] w fun e w' => e = .returned (.int .u64 (get ws bs x)) ∧ w' = w := by
  obtain ⟨b0, o0, e0, g0⟩ := h0
  obtain ⟨b1, o1, e1, g1⟩ := h1
  have E0 : Hid _ := e0; have G0 : Hid _ := g0; have E1 : Hid _ := e1; have G1 : Hid _ := g1
  clear e0 g0 e1 g1
  go_enter Try.func17, Try.ntmps17
  go_wp2
  go_loop [7] (fun i => ∃ k : Nat, k ≤ ws.length ∧ i = .int .i64 k ∧ Hid (get (ws.drop k) (bs.drop k) x = get ws bs x)) (fun i => ws.length - (intOf i).toNat)
  case atStart => exact ⟨0, Nat.zero_le _, rfl, by show _ = _; simp⟩
  case round =>
    obtain ⟨k, hk, rfl, hr⟩ := hrel
    by_cases hlt : k < ws.length
    · by_cases hlt1 : k < bs.length
      · obtain ⟨v, hv⟩ := at_some hlt
        obtain ⟨y, hy⟩ := at_some hlt1
        have c0 := G0.out k v hv
        have c1 := G1.out k y hy
        obtain rfl := E0.out (ne_nil hlt)
        obtain rfl := E1.out (ne_nil hlt1)
        have V : Hid _ := hv; have Y : Hid _ := hy
        clear hv hy
        by_cases hvx : v = x
        · have HV : Hid (v = x) := hvx
          have hb : (v == x) = true := by simp [hvx]
          clear hvx
          go_wp2
          go_ret
          exact ⟨ret_int (by rw [← hr.out]; have h0 := V.out; rw [HV.out] at h0; exact (get_hit h0 Y.out).symm), rfl⟩
        · have hb : (v == x) = false := by simp [hvx]
          have HV : Hid (¬ v = x) := hvx
          clear hvx
          go_wp2
          go_round
          case rel => exact ⟨k + 1, by omega, by go_num, (get_miss V.out Y.out HV.out).trans hr.out⟩
          case measure => simp [intOf]; omega
      · go_wp2
        go_ret
        exact ⟨ret_int (by rw [← hr.out, get_end (Or.inr (by omega))]), rfl⟩
    · go_wp2
      go_ret
      exact ⟨ret_int (by rw [← hr.out, get_end (Or.inl (by omega))]), rfl⟩

end Go.Proofs.Qxb6602705a
