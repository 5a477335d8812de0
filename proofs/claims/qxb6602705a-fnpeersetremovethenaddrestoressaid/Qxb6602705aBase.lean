import Derived.Test.Qxb6602705aProg
import Derived.WalkKit
import Derived.Below
namespace Go.Proofs.Qxb6602705a
open Go.RowKit
set_option linter.unusedVariables false

/-- A slice of numbers in memory, as the walks want it: its elements 'zs'; where there is one, the slice has an address. -/
def Ints (kd : IntKind) (w : World) (a : Option Addr) (zs : List Int) : Prop :=
  ∃ b off, (zs ≠ [] → a = some ⟨b, off, none⟩) ∧ ∀ i x, zs[i]? = some x → w.cell? ⟨b, off + i, none⟩ = some (.int kd x)

theorem Ints.below {kd : IntKind} {w w' : World} {a : Option Addr} {zs : List Int} (h : Ints kd w a zs) (hb : Below w.heap.size w w') : Ints kd w' a zs := by
  obtain ⟨b, off, h1, h2⟩ := h
  refine ⟨b, off, h1, fun i x hx => ?_⟩
  have hc := h2 i x hx
  rw [hb.cell (World.block_lt_of_cell? w _ hc)]
  exact hc

theorem zzb23_yes (a0 : Option Addr) (n0 c0 : Nat) (a1 : Option Addr) (n1 c1 : Nat) (p : Int) (w : World) (h0 : n0 + n1 ≤ 1048576) :
    Calls Try.prog 23 #[.slice a0 n0 c0, .slice a1 n1 c1, .int .i64 p] w fun e w' => e = .returned (.bool true) ∧ w' = w := by
  go_enter Try.func23, Try.ntmps23
  go_wp2
  go_ret
  exact ⟨rfl, rfl⟩

end Go.Proofs.Qxb6602705a
