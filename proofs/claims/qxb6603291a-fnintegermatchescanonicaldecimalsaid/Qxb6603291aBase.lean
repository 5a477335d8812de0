/-
  THE COMMON GROUND OF THIS SEAT's WALKS: a slice of numbers as the walks want it ('Ints'); a new row that is being filled ('Filled'); the copying function.
-/
import Derived.Test.Qxb6603291aProg
import Derived.WalkKit
import Derived.Below
import Derived.WalkSmall
import Derived.Lib.SliceRun
import Derived.OwnWalk
import Derived.OpenShut
import Derived.Deep.QuietTactic
import Derived.BigQuiet
namespace Go.Proofs.Qxb6603291a
open Go.RowKit
set_option linter.unusedVariables false

/-- A slice of numbers in memory, as the walks want it: its elements 'zs'; where there is one, the slice has an address. -/
def Ints (kd : IntKind) (w : World) (a : Option Addr) (zs : List Int) : Prop :=
  ∃ b off, (zs ≠ [] → a = some ⟨b, off, none⟩) ∧ ∀ i x, zs[i]? = some x → w.cell? ⟨b, off + i, none⟩ = some (.int kd x)

theorem Ints.below {kd : IntKind} {w w' : World} {a : Option Addr} {zs : List Int} (h : Ints kd w a zs) (hb : Below w.heap.size w w') : Ints kd w' a zs := by
  obtain ⟨b, off, h1, h2⟩ := h
  refine ⟨b, off, h1, fun i x hx => ?_⟩
  have hc := h2 i x hx
  rw [hb.cell (World.block_lt_of_cell? w _ hc)]
  exact hc

theorem ret_int {k : IntKind} {a b : Int} (h : a = b) : Ending.returned (.int k a) = .returned (.int k b) := by rw [h]

/-- A number of a list, at a place within it. -/
theorem at_some {zs : List Int} {k : Nat} (h : k < zs.length) : ∃ x, zs[k]? = some x := ⟨zs[k], by simp [h]⟩
theorem ne_nil {zs : List Int} {k : Nat} (h : k < zs.length) : zs ≠ [] := by intro e; subst e; simp at h

/-- A new row of numbers, its first k cells filled. -/
def Filled (kd : IntKind) (w : World) (g : Nat) (t : TypeId) (n k : Nat) (zs : List Int) : Prop :=
  ∃ cs : Array Value, w.heap[g]? = some (.cells cs t (0, 0)) ∧ cs.size = n ∧ ∀ i x, i < k → zs[i]? = some x → cs[i]? = some (.int kd x)

theorem Filled.cell {kd : IntKind} {w : World} {g : Nat} {t : TypeId} {n k : Nat} {zs : List Int} (h : Filled kd w g t n k zs) {i : Nat} (hi : i < n) : ∃ v, w.cell? ⟨g, i, none⟩ = some v := by
  obtain ⟨cs, h1, h2, _⟩ := h
  exact ⟨cs[i], by simp [World.cell?, h1, h2, hi]⟩
theorem Filled.frozen {kd : IntKind} {w : World} {g : Nat} {t : TypeId} {n k : Nat} {zs : List Int} (h : Filled kd w g t n k zs) (i : Nat) : w.frozen? ⟨g, i, none⟩ = false := by
  obtain ⟨cs, h1, h2, _⟩ := h
  simp [World.frozen?, h1]
theorem Filled.step {kd : IntKind} {w : World} {g : Nat} {t : TypeId} {n k : Nat} {zs : List Int} (h : Filled kd w g t n k zs) (hk : k < n) {x : Int} (hx : zs[k]? = some x) : Filled kd (w.setCell ⟨g, k, none⟩ (.int kd x)) g t n (k + 1) zs := by
  obtain ⟨cs, h1, h2, h3⟩ := h
  refine ⟨cs.setIfInBounds k (.int kd x), heap_setCell_same w g k cs t _ h1, by simpa using h2, fun i y hi hy => ?_⟩
  by_cases e : i = k
  · subst e
    rw [hx] at hy
    obtain rfl : x = y := by simpa using hy
    simp [h2, hk]
  · rw [Array.getElem?_setIfInBounds_ne (by omega)]
    exact h3 i y (by omega) hy
theorem Filled.ints {kd : IntKind} {w : World} {g : Nat} {t : TypeId} {n : Nat} {zs : List Int} (h : Filled kd w g t n n zs) (hl : zs.length ≤ n) : Ints kd w (some ⟨g, 0, none⟩) zs := by
  obtain ⟨cs, h1, h2, h3⟩ := h
  refine ⟨g, 0, fun _ => rfl, fun i x hx => ?_⟩
  have hi : i < zs.length := (List.getElem?_eq_some_iff.1 hx).1
  have := h3 i x (by omega) hx
  simpa [World.cell?, h1] using this
theorem Filled.other {kd : IntKind} {w : World} {g : Nat} {t : TypeId} {n k : Nat} {zs : List Int} (h : Filled kd w g t n k zs) {a : Addr} (ha : g ≠ a.block) (v : Value) : Filled kd (w.setCell a v) g t n k zs := by
  obtain ⟨cs, h1, h2, h3⟩ := h
  exact ⟨cs, by rw [Below.heap_setCell _ _ _ _ ha]; exact h1, h2, h3⟩
theorem Filled.below {kd : IntKind} {w w' : World} {g : Nat} {t : TypeId} {n k : Nat} {zs : List Int} (h : Filled kd w g t n k zs) (hb : Below w.heap.size w w') : Filled kd w' g t n k zs := by
  obtain ⟨cs, h1, h2, h3⟩ := h
  exact ⟨cs, by rw [hb.block g (Array.getElem?_eq_some_iff.1 h1).1]; exact h1, h2, h3⟩
theorem Filled.made {kd : IntKind} {w : World} {base g : Nat} {t : TypeId} {n : Nat} {xs : List Value} (zs : List Int) (h : w.ownsRow base t 1 (.slice (some ⟨g, 0, none⟩) n n) n xs) : Filled kd w g t n 0 zs := by
  rcases h.2 with ⟨h', _⟩ | ⟨g', cap', cur, h', hb, hg, hnc, hcm, hcs, htake⟩
  · simp at h'
  · simp only [Value.slice.injEq, Option.some.injEq, Addr.mk.injEq, and_true, true_and] at h'
    obtain ⟨rfl, rfl⟩ := h'
    exact ⟨cur, hg, by simpa using hcs, fun i x hi => absurd hi (Nat.not_lt_zero _)⟩

theorem Try.info5 : (Try.prog.info? 5).map (fun i => (i.zero, i.size, i.bytes)) = some (some (.int .u8 0), 1, 1) := by kernel_rfl

/-- What a copying function leaves: the same numbers, in memory that is the call's own. -/
def Cloned (kd : IntKind) (zs : List Int) (w : World) (e : Ending) (w' : World) : Prop := ∃ a c, e = .returned (.slice a zs.length c) ∧ Ints kd w' a zs ∧ Below w.heap.size w w'

theorem clone_any (a : Option Addr) (c : Nat) (zs : List Int) (w : World) (hl : zs.length ≤ 1048576) (h : Ints .u8 w a zs) (hnil : a = none → zs = []) :
    Calls Try.prog 9 #[.slice a zs.length c] w fun e w' => Cloned .u8 zs w e w' := by
  have q22 : ∀ (w : World) (a : Option Addr) (n c n' c' : Nat), (binOp .eql 22 (.slice a n c) (.slice none n' c')).run Try.prog w = .ok (.bool a.isNone) w := fun w a n c n' c' => Lib.run_eql_slice_nil w _ _ a n c n' c' Try.underlying22
  cases a with
  | none =>
    have H : Hid _ := hnil rfl
    clear hnil h
    go_enter Try.func9, Try.ntmps9
    go_wp2
    go_ret
    exact ⟨none, 0, by simp [H.out], by rw [H.out]; exact ⟨0, 0, fun h => absurd rfl h, fun i x hx => by simp at hx⟩, Below.refl _ _⟩
  | some x =>
    clear hnil
    obtain ⟨i0, hi, hz0, hz1, hz2⟩ := info_parts Try.info5
    go_enter Try.func9, Try.ntmps9
    go_wp2_with (at_make; refine wpList_make_full _ rfl (.tmp 8) (.tmp 8) 22 rfl w.heap.size 5 i0 (.int .u8 0) 1 Try.underlying22 hi hz0 hz1 .i64 .i64 _ _ zs.length rfl rfl rfl rfl (by rw [hz2]; omega) (by unfold maxLen; omega) (Nat.le_refl _) ?_; intro w1 hown hgr)
    have F0 : Filled .u8 w1 w.heap.size 5 zs.length 0 zs := Filled.made zs hown
    have B0 : Below w.heap.size w w1 := (Below.refl _ _).grown hgr (Nat.le_refl _) (fun k hk => by cases hk)
    clear hown hgr
    go_loopw [4] (fun i wr => ∃ k : Nat, k ≤ zs.length ∧ i = .int .i64 k ∧ Filled .u8 wr w.heap.size 5 zs.length k zs ∧ Below w.heap.size w wr) (fun i _ => zs.length - (intOf i).toNat)
    case atStart => exact ⟨0, Nat.zero_le _, rfl, F0, B0⟩
    case round =>
      obtain ⟨k, hk, rfl, hF, hb⟩ := hrel
      clear F0 B0
      by_cases hlt : k < zs.length
      · obtain ⟨b0, o0, e0, g0⟩ := h.below hb
        obtain ⟨v, hv⟩ := at_some hlt
        have c0 := g0 k v hv
        have e := e0 (ne_nil hlt)
        simp only [Option.some.injEq] at e
        subst e
        obtain ⟨u, c1⟩ := hF.cell hlt
        have c2 := hF.frozen k
        have V : Hid _ := hv
        clear hv e0 g0
        go_wp2
        go_roundw
        case rel => exact ⟨k + 1, by omega, by go_num, hF.step hlt V.out, hb.setCell (Nat.le_refl _) _⟩
        case measure => simp [intOf]; omega
      · go_wp2
        go_ret
        obtain rfl : k = zs.length := by omega
        exact ⟨_, _, rfl, hF.ints (Nat.le_refl _), hb⟩

theorem row_ints {k : IntKind} {w : World} {a : Option Addr} {len cap : Nat} {zs : List Int}
    (h : (a = none ∧ len = 0 ∧ cap = 0 ∧ zs = []) ∨ ∃ x, a = some x ∧ len ≤ cap ∧ cap ≤ maxLen ∧ zs.length = cap ∧ (∀ i, i < zs.length → w.cell? (x.add i) = some (.int k (zs.getD i 0))) ∧ ∀ n ∈ zs, (Lit.int k n).wf = true) :
    ∃ ws : List Int, ws.length = len ∧ Ints k w a ws ∧ (a = none → ws = []) ∧ len ≤ maxLen ∧ ∀ v ∈ ws, (Lit.int k v).wf = true := by
  rcases h with ⟨rfl, rfl, rfl, rfl⟩ | ⟨x, rfl, h1, h2, h3, h4, h5⟩
  · exact ⟨[], rfl, ⟨0, 0, fun h => absurd rfl h, fun i x hx => by simp at hx⟩, fun _ => rfl, Nat.zero_le _, fun v hv => by simp at hv⟩
  · refine ⟨zs.take len, by simp; omega, ?_, fun h => by simp at h, by omega, fun v hv => h5 v (List.mem_of_mem_take hv)⟩
    obtain ⟨b, off, spot⟩ := x
    refine ⟨b, off, fun hne => ?_, fun i v hv => ?_⟩
    · have h0 : 0 < zs.length := by
        rcases Nat.eq_zero_or_pos zs.length with e | e
        · exact absurd (by rw [List.length_eq_zero_iff.1 e]; simp) hne
        · exact e
      have hspot : spot = none := by simpa [Addr.add] using World.cell?_spot (h4 0 h0)
      rw [hspot]
    · rw [List.getElem?_take] at hv
      split at hv
      · have hi : i < zs.length := (List.getElem?_eq_some_iff.1 hv).1
        have hspot : spot = none := by simpa [Addr.add] using World.cell?_spot (h4 0 (by omega))
        subst hspot
        have := h4 i hi
        rw [Addr.add_lit] at this
        rw [this, List.getD, hv]; rfl
      · simp at hv

/-- Where a law ends. -/
def Done (w : World) (e : Ending) (w' : World) : Prop := e = .returned (.bool true) ∧ Below w.heap.size w w'

end Go.Proofs.Qxb6603291a
