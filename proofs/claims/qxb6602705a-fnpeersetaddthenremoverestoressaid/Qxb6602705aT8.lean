import Derived.Test.Qxb6602705aPlain
namespace Go.Proofs.Qxb6602705a
open Go.RowKit
set_option linter.unusedVariables false

/-- What ZZPeerSetRemove leaves: the set's parts, in memory of the call's own. -/
def ZRemSays (ws bs : List Int) (p : Int) (w : World) (e : Ending) (w' : World) : Prop :=
  ∃ (rs : List (Int × Int)) (rw rb : List Int) (a0 : Option Addr) (c0 : Nat) (a1 : Option Addr) (c1 : Nat), e = .returned (.tuple #[.slice a0 rw.length c0, .slice a1 rb.length c1]) ∧
    rw = rs.map Prod.fst ∧ rb = rs.map Prod.snd ∧ rs.length ≤ ws.length ∧ RemForm (ws.zip bs) p rs ∧ Ints .i64 w' a0 rw ∧ Ints .u64 w' a1 rb ∧ Below w.heap.size w w'

theorem zrem_any (a0 : Option Addr) (c0 : Nat) (a1 : Option Addr) (c1 : Nat) (ws bs : List Int) (p : Int) (w : World) (hl0 : ws.length ≤ 1048576) (hlen : ws.length = bs.length) (h0 : Ints .i64 w a0 ws) (h1 : Ints .u64 w a1 bs)
    (R : Rising (ws.zip bs)) (hp0 : 0 ≤ p) (hp : p ≤ 9223372036854775807) :
    Calls Try.prog 20 #[.slice a0 ws.length c0, .slice a1 bs.length c1, .int .i64 p] w fun e w' => ZRemSays ws bs p w e w' := by
  have HR : Hid (Rising (ws.zip bs)) := R
  have HL : Hid (ws.length = bs.length) := hlen
  clear R hlen
  go_enter Try.func20, Try.ntmps20
  go_wp2_with fail
  refine (of_any a0 c0 a1 c1 ws bs _ hl0 HL.out h0 h1).mono ?_
  rintro e w1 ⟨g, rfl, hg, hrow, hb⟩
  have hz : Hid ((ws.zip bs).length = ws.length) := by show _ = _; simp; have := HL.out; omega
  go_wp2_with fail
  refine (rem_any g ws.length (ws.zip bs) p _ hl0 hz.out hrow HR.out hp0 hp).mono ?_
  rintro e w2 ⟨m, rs, rfl, hm, hml, hrel, hrow2, hb2⟩
  have HM : Hid (rs.length = m) := hml
  have HRel : Hid (RemForm (ws.zip bs) p rs) := rem_form HR.out hrel
  clear hml hrel
  go_wp2_with fail
  refine (parts_any g m ws.length ws.length rs _ (by omega) HM.out hm hrow2).mono ?_
  rintro e w3 ⟨b0, d0, b1, d1, rfl, hi0, hi1, hb3⟩
  have H0 : Hid (Ints .i64 w3 b0 (rs.map Prod.fst)) := hi0
  have H1 : Hid (Ints .u64 w3 b1 (rs.map Prod.snd)) := hi1
  clear hi0 hi1
  go_wp2
  go_ret2
  refine ⟨rs, rs.map Prod.fst, rs.map Prod.snd, b0, d0, b1, d1, by simp [HM.out], rfl, rfl, by rw [HM.out]; exact hm, HRel.out, H0.out, H1.out, ?_⟩
  have hs1 := hb.size
  have hs2 := hb2.size
  exact (hb.trans (hb2.mono hg)).trans (hb3.mono (by omega))
end Go.Proofs.Qxb6602705a
