import Derived.Test.Qxb6602705aT12
namespace Go.Proofs.Qxb6602705a
open Go.RowKit
set_option linter.unusedVariables false

set_option maxHeartbeats 400000 in
theorem same_any (a0 : Option Addr) (c0 : Nat) (a1 : Option Addr) (c1 : Nat) (a2 : Option Addr) (c2 : Nat) (a3 : Option Addr) (c3 : Nat) (ws bs : List Int) (w : World) (hl : ws.length ≤ 1048576) (hlen : ws.length = bs.length)
    (h0 : Ints .i64 w a0 ws) (h1 : Ints .u64 w a1 bs) (h2 : Ints .i64 w a2 ws) (h3 : Ints .u64 w a3 bs) :
    Calls Try.prog 21 #[.slice a0 ws.length c0, .slice a1 bs.length c1, .slice a2 ws.length c2, .slice a3 bs.length c3] w fun e w' => Done w e w' := by
  have HL : Hid (ws.length = bs.length) := hlen
  have hln : ((ws.length : Int) != (bs.length : Int)) = false := by rw [hlen]; simp
  clear hlen
  go_enter Try.func21, Try.ntmps21
  go_wp2
  go_loopw [9] (fun i wr => ∃ k : Nat, k ≤ ws.length ∧ i = .int .i64 k ∧ Below w.heap.size w wr) (fun i _ => ws.length - (intOf i).toNat)
  case atStart => exact ⟨0, Nat.zero_le _, rfl, Below.refl _ _⟩
  case round =>
    obtain ⟨k, hk, rfl, hb⟩ := hrel
    by_cases hlt : k < ws.length
    · have hlt1 : k < bs.length := by have := HL.out; omega
      obtain ⟨b0, o0, q0, g0⟩ := h0.below hb
      obtain ⟨b1, o1, q1, g1⟩ := h1.below hb
      obtain ⟨b2, o2, q2, g2⟩ := h2.below hb
      obtain ⟨b3, o3, q3, g3⟩ := h3.below hb
      obtain ⟨v, hv⟩ := at_some hlt
      obtain ⟨y, hy⟩ := at_some hlt1
      have z0 := g0 k v hv
      have z1 := g1 k y hy
      have z2 := g2 k v hv
      have z3 := g3 k y hy
      obtain rfl := q0 (ne_nil hlt)
      obtain rfl := q1 (ne_nil hlt1)
      obtain rfl := q2 (ne_nil hlt)
      obtain rfl := q3 (ne_nil hlt1)
      clear hv hy g0 g1 g2 g3 q0 q1 q2 q3 h0 h1 h2 h3
      have hvv : (v != v) = false := by simp
      have hyy : (y != y) = false := by simp
      go_wp2
      go_quiet (fail)
      go_wp2
      go_roundw
      case rel => exact ⟨k + 1, by omega, by go_num, below_drewN hb _⟩
      case measure => simp [intOf]; omega
    · go_wp2
      go_ret
      exact ⟨rfl, hb⟩
end Go.Proofs.Qxb6602705a
