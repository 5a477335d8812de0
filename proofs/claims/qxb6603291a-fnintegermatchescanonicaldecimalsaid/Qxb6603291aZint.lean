import Derived.Test.Qxb6603291aInt
namespace Go.Proofs.Qxb6603291a
open Go.RowKit
set_option linter.unusedVariables false

/-- What ZZInteger hands back. -/
def ZSays (zs : List Int) (pos : Nat) (z : Bool) (w : World) (e : Ending) (w' : World) : Prop :=
  ∃ (neg : Bool) (en : Nat), NegIs neg zs pos ∧ Run zs (startOf neg pos) en ∧
    ((¬ (1 ≤ en - startOf neg pos ∧ en - startOf neg pos ≤ 18) ∧ e = .returned (.tuple #[.int .i64 0, .bool false, .int .i64 pos, .bool z])) ∨
     ((1 ≤ en - startOf neg pos ∧ en - startOf neg pos ≤ 18) ∧ e = .returned (.tuple #[.int .i64 (numOf neg (seg zs (startOf neg pos) en)), .bool true, .int .i64 en, .bool z]))) ∧ Below w.heap.size w w'

theorem four_results {fn : Func} {t u v x : Tmp} (h : fn.results = #[.tmp t, .tmp u, .tmp v, .tmp x]) (tmps : Array Value) (P : Program) (w : World) :
    (results fn tmps).run P w = .ok (.tuple #[tmps.getD t undef, tmps.getD u undef, tmps.getD v undef, tmps.getD x undef]) w := by
  simp [results, h]

theorem zint_any (a : Option Addr) (c : Nat) (zs : List Int) (pos : Nat) (z : Bool) (w : World) (hl : zs.length ≤ 2097152) (hpos : pos ≤ 9223372036854775807) (h : Ints .u8 w a zs) (hz : ∀ v ∈ zs, 0 ≤ v ∧ v ≤ 255) :
    Calls Try.prog 10 #[.slice a zs.length c, .int .i64 pos, .bool z] w fun e w' => ZSays zs pos z w e w' := by
  have HZ : Hid (∀ v ∈ zs, 0 ≤ v ∧ v ≤ 255) := hz
  clear hz
  have hB : Below w.heap.size w (w.alloc (.cells #[.slice a zs.length c, .int .i64 pos, .bool z] 35)) := (Below.refl _ _).alloc (Nat.le_refl _) _
  have H : Hid (Ints .u8 (w.alloc (.cells #[.slice a zs.length c, .int .i64 pos, .bool z] 35)) a zs) := h.below hB
  have HB : Hid (Below w.heap.size w (w.alloc (.cells #[.slice a zs.length c, .int .i64 pos, .bool z] 35))) := hB
  clear h hB
  go_enter Try.func10, Try.ntmps10
  go_wp2_with fail
  refine (int_any a c zs pos w.heap.size _ hl hpos H.out HZ.out ?_ ?_ ?_).mono ?_
  · rw [World.cell?_alloc_at _ _ _ _ rfl]; rfl
  · rw [World.cell?_alloc_at _ _ _ _ rfl]; rfl
  · exact World.frozen?_alloc_at _ _ _ _ rfl
  rintro e w1 ⟨neg, en, hneg, hrun, hcase⟩
  rcases hcase with ⟨hc, rfl, rfl⟩ | ⟨hc, rfl, rfl⟩
  · have HN : Hid (NegIs neg zs pos) := hneg
    have HR : Hid (Run zs (startOf neg pos) en) := hrun
    have HC : Hid (¬ (1 ≤ en - startOf neg pos ∧ en - startOf neg pos ≤ 18)) := hc
    clear hneg hrun hc
    go_wp2
    go_quiet (fail)
    go_wp2
    refine bodyPost_ret (four_results rfl _ _ _) rfl ?_
    exact ⟨neg, en, HN.out, HR.out, Or.inl ⟨HC.out, rfl⟩, below_drewN HB.out _⟩
  · have HN : Hid (NegIs neg zs pos) := hneg
    have HR : Hid (Run zs (startOf neg pos) en) := hrun
    have HC : Hid (1 ≤ en - startOf neg pos ∧ en - startOf neg pos ≤ 18) := hc
    clear hneg hrun hc
    obtain ⟨N, hN⟩ : ∃ N, N = numOf neg (seg zs (startOf neg pos) en) := ⟨_, rfl⟩
    rw [← hN]
    have HNN : Hid (N = numOf neg (seg zs (startOf neg pos) en)) := hN
    clear hN
    go_wp2
    go_quiet (fail)
    go_wp2
    refine bodyPost_ret (four_results rfl _ _ _) rfl ?_
    refine ⟨neg, en, HN.out, HR.out, Or.inr ⟨HC.out, by rw [← HNN.out]; rfl⟩, ?_⟩
    exact below_drewN ((Below.refl _ _).alloc (Nat.le_refl _) _) _
end Go.Proofs.Qxb6603291a
