import Derived.Test.Qxb6602705aT3
import Derived.RegionTactic
import Derived.BigRegion
namespace Go.Proofs.Qxb6602705a
open Go.RowKit
set_option linter.unusedVariables false

/-- A row of pairs (word, bits) in a block of its own, room for 'cap' of them, the first k known. -/
def PRow (w : World) (g cap k : Nat) (ps : List (Int × Int)) : Prop :=
  ∃ cs : Array Value, w.heap[g]? = some (.cells cs 52 (0, 0)) ∧ cs.size = cap * 2 ∧ ∀ i p, i < k → ps[i]? = some p → cs[i * 2]? = some (.int .i64 p.1) ∧ cs[i * 2 + 1]? = some (.int .u64 p.2)

theorem PRow.cell {w : World} {g cap k : Nat} {ps : List (Int × Int)} (h : PRow w g cap k ps) {i : Nat} (hi : i < cap) : ∃ v u, w.cell? ⟨g, i * 2, none⟩ = some v ∧ w.cell? ⟨g, i * 2 + 1, none⟩ = some u := by
  obtain ⟨cs, h1, h2, _⟩ := h
  exact ⟨cs[i * 2], cs[i * 2 + 1], by simp [World.cell?, h1, h2, hi], by
    have : i * 2 + 1 < cs.size := by omega
    simp [World.cell?, h1, this]⟩
theorem PRow.at {w : World} {g cap k : Nat} {ps : List (Int × Int)} (h : PRow w g cap k ps) {i : Nat} (hi : i < k) {p : Int × Int} (hp : ps[i]? = some p) : w.cell? ⟨g, i * 2, none⟩ = some (.int .i64 p.1) ∧ w.cell? ⟨g, i * 2 + 1, none⟩ = some (.int .u64 p.2) := by
  obtain ⟨cs, h1, h2, h3⟩ := h
  have := h3 i p hi hp
  exact ⟨by simpa [World.cell?, h1] using this.1, by simpa [World.cell?, h1] using this.2⟩
theorem PRow.frozen {w : World} {g cap k : Nat} {ps : List (Int × Int)} (h : PRow w g cap k ps) (i : Nat) : w.frozen? ⟨g, i, none⟩ = false := by
  obtain ⟨cs, h1, h2, _⟩ := h
  simp [World.frozen?, h1]
theorem PRow.below {w w' : World} {g cap k : Nat} {ps : List (Int × Int)} (h : PRow w g cap k ps) (hb : Below w.heap.size w w') : PRow w' g cap k ps := by
  obtain ⟨cs, h1, h2, h3⟩ := h
  exact ⟨cs, by rw [hb.block g (Array.getElem?_eq_some_iff.1 h1).1]; exact h1, h2, h3⟩
theorem PRow.lt {w : World} {g cap k : Nat} {ps : List (Int × Int)} (h : PRow w g cap k ps) : g < w.heap.size := by
  obtain ⟨cs, h1, h2, h3⟩ := h
  exact (Array.getElem?_eq_some_iff.1 h1).1
theorem PRow.made {w : World} {base g n : Nat} {xs : List Value} (ps : List (Int × Int)) (h : w.ownsRow base 52 2 (.slice (some ⟨g, 0, none⟩) n n) n xs) : PRow w g n 0 ps := by
  rcases h.2 with ⟨h', _⟩ | ⟨g', cap', cur, h', hb, hg, hnc, hcm, hcs, htake⟩
  · simp at h'
  · simp only [Value.slice.injEq, Option.some.injEq, Addr.mk.injEq, and_true, true_and] at h'
    obtain ⟨rfl, rfl⟩ := h'
    exact ⟨cur, hg, by simpa using hcs, fun i x hi => absurd hi (Nat.not_lt_zero _)⟩

theorem PRow.drew {w : World} {g cap k : Nat} {ps : List (Int × Int)} (h : PRow w g cap k ps) : PRow w.drew g cap k ps := h
theorem PRow.step {w : World} {g cap k : Nat} {ps : List (Int × Int)} (h : PRow w g cap k ps) (hk : k < cap) {x y : Int} (hx : ps[k]? = some (x, y)) :
    PRow ((w.setCell ⟨g, k * 2, none⟩ (.int .i64 x)).setCell ⟨g, k * 2 + 1, none⟩ (.int .u64 y)) g cap (k + 1) ps := by
  obtain ⟨cs, h1, h2, h3⟩ := h
  refine ⟨(cs.setIfInBounds (k * 2) (.int .i64 x)).setIfInBounds (k * 2 + 1) (.int .u64 y), heap_setCell_same _ g _ _ 52 _ (heap_setCell_same w g _ cs 52 _ h1), by simpa using h2, fun i p hi hp => ?_⟩
  by_cases e : i = k
  · subst e
    rw [hx] at hp
    obtain rfl : (x, y) = p := by simpa using hp
    refine ⟨?_, ?_⟩
    · rw [Array.getElem?_setIfInBounds_ne (by omega), Array.getElem?_setIfInBounds_self_of_lt (by omega)]
    · rw [Array.getElem?_setIfInBounds_self_of_lt (by simp; omega)]
  · have := h3 i p (by omega) hp
    refine ⟨?_, ?_⟩
    · rw [Array.getElem?_setIfInBounds_ne (by omega), Array.getElem?_setIfInBounds_ne (by omega)]; exact this.1
    · rw [Array.getElem?_setIfInBounds_ne (by omega), Array.getElem?_setIfInBounds_ne (by omega)]; exact this.2

/-- What the maker of a set leaves. -/
def OfSays (n : Nat) (ps : List (Int × Int)) (w : World) (e : Ending) (w' : World) : Prop := ∃ g, e = .returned (.slice (some ⟨g, 0, none⟩) n n) ∧ w.heap.size ≤ g ∧ PRow w' g n n ps ∧ Below w.heap.size w w'

theorem of_any (a0 : Option Addr) (c0 : Nat) (a1 : Option Addr) (c1 : Nat) (ws bs : List Int) (w : World) (hl0 : ws.length ≤ 1048576) (hlen : ws.length = bs.length) (h0 : Ints .i64 w a0 ws) (h1 : Ints .u64 w a1 bs) :
    Calls Try.prog 34 #[.slice a0 ws.length c0, .slice a1 bs.length c1] w fun e w' => OfSays ws.length (ws.zip bs) w e w' := by
  have hz : (ws.zip bs).length = ws.length := by simp; omega
  have HL : Hid (ws.length = bs.length) := hlen
  have HZ : Hid _ := hz
  have hle : ¬ bs.length < ws.length := by omega
  have hle' : bs.length ≤ 1048576 := by omega
  clear hlen hz
  obtain ⟨i0, hi, hz0, hz1, hz2⟩ := info_parts Try.info52
  go_enter Try.func34, Try.ntmps34
  go_wp2_with (at_make; refine wpList_make_full _ rfl (.tmp 16) (.tmp 16) 43 rfl w.heap.size 52 i0 (.agg #[.int .i64 0, .int .u64 0]) 2 Try.underlying43 hi hz0 hz1 .i64 .i64 _ _ ws.length rfl rfl rfl rfl (by rw [hz2]; omega) (by unfold maxLen; omega) (Nat.le_refl _) ?_; intro w1 hown hgr)
  have F0 : PRow w1 w.heap.size ws.length 0 (ws.zip bs) := PRow.made _ hown
  have B0 : Below w.heap.size w w1 := (Below.refl _ _).grown hgr (Nat.le_refl _) (fun k hk => by cases hk)
  clear hown hgr
  go_loopw [7] (fun i wr => ∃ k : Nat, k ≤ ws.length ∧ i = .int .i64 k ∧ PRow wr w.heap.size ws.length k (ws.zip bs) ∧ Below w.heap.size w wr) (fun i _ => ws.length - (intOf i).toNat)
  case atStart => exact ⟨0, Nat.zero_le _, rfl, F0, B0⟩
  case round =>
    obtain ⟨k, hk, rfl, hF, hb⟩ := hrel
    clear F0 B0
    by_cases hlt : k < ws.length
    · have hlt1 : k < bs.length := by omega
      obtain ⟨b0, o0, e0, g0⟩ := h0.below hb
      obtain ⟨b1, o1, e1, g1⟩ := h1.below hb
      obtain ⟨v, hv⟩ := at_some hlt
      obtain ⟨y, hy⟩ := at_some hlt1
      have d0 := g0 k v hv
      have d1 := g1 k y hy
      obtain rfl := e0 (ne_nil hlt)
      obtain rfl := e1 (ne_nil hlt1)
      obtain ⟨u0, u1, x0, x1⟩ := hF.cell hlt
      have f0 := hF.frozen (k * 2)
      have f1 := hF.frozen (k * 2 + 1)
      have V : Hid _ := hv; have Y : Hid _ := hy
      clear hv hy e0 e1 g0 g1
      go_wp2
      go_region
      all_goals go_wp2
      go_roundw
      case rel => exact ⟨k + 1, by omega, by go_num, (hF.step hlt (by rw [List.getElem?_zip_eq_some]; exact ⟨V.out, Y.out⟩)).drew, ((hb.setCell (Nat.le_refl _) _).setCell (Nat.le_refl _) _).drew⟩
      case measure => simp [intOf]; omega
    · go_wp2
      go_ret
      obtain rfl : k = ws.length := by omega
      exact ⟨_, rfl, Nat.le_refl _, hF, hb⟩

/-- What the taker-apart of a set leaves. -/
def PartsSays (n : Nat) (ps : List (Int × Int)) (w : World) (e : Ending) (w' : World) : Prop :=
  ∃ a0 c0 a1 c1, e = .returned (.tuple #[.slice a0 n c0, .slice a1 n c1]) ∧ Ints .i64 w' a0 (ps.map Prod.fst) ∧ Ints .u64 w' a1 (ps.map Prod.snd) ∧ Below w.heap.size w w'

theorem parts_any (g n c cap : Nat) (ps : List (Int × Int)) (w : World) (hl : n ≤ 1048576) (hn : ps.length = n) (hc : n ≤ cap) (h : PRow w g cap n ps) :
    Calls Try.prog 33 #[.slice (some ⟨g, 0, none⟩) n c] w fun e w' => PartsSays n ps w e w' := by
  have HN : Hid _ := hn
  clear hn
  have hg := h.lt
  obtain ⟨i0, hi, hz0, hz1, hz2⟩ := info_parts Try.info3
  obtain ⟨j0, hj, hy0, hy1, hy2⟩ := info_parts Try.info30
  go_enter Try.func33, Try.ntmps33
  go_wp2_with (first | (at_make; refine wpList_make_full _ rfl (.tmp 8) (.tmp 8) 22 rfl w.heap.size 3 i0 (.int .i64 0) 1 Try.underlying22 hi hz0 hz1 .i64 .i64 _ _ n rfl rfl rfl rfl (by rw [hz2]; omega) (by unfold maxLen; omega) (Nat.le_refl _) ?_; intro w1 hown hgr) | (at_make; refine wpList_make_full _ rfl (.tmp 11) (.tmp 11) 23 rfl w1.heap.size 30 j0 (.int .u64 0) 1 Try.underlying23 hj hy0 hy1 .i64 .i64 _ _ n rfl rfl rfl rfl (by rw [hy2]; omega) (by unfold maxLen; omega) (Nat.le_refl _) ?_; intro w2 hown2 hgr2))
  have F0 : Filled .i64 w1 w.heap.size 3 n 0 (ps.map Prod.fst) := Filled.made _ hown
  have B0 : Below w.heap.size w w1 := (Below.refl _ _).grown hgr (Nat.le_refl _) (fun k hk => by cases hk)
  have G0 : Filled .u64 w2 w1.heap.size 30 n 0 (ps.map Prod.snd) := Filled.made _ hown2
  have B1 : Below w1.heap.size w1 w2 := (Below.refl _ _).grown hgr2 (Nat.le_refl _) (fun k hk => by cases hk)
  have hlt01 : w.heap.size < w1.heap.size := by obtain ⟨cs, h1, _⟩ := F0; exact (Array.getElem?_eq_some_iff.1 h1).1
  have F1 := F0.below B1
  have B2 : Below w.heap.size w w2 := B0.trans (B1.mono B0.size)
  clear hown hgr hown2 hgr2 F0 B0 B1
  go_loopw [6] (fun i wr => ∃ k : Nat, k ≤ n ∧ i = .int .i64 k ∧ Filled .i64 wr w.heap.size 3 n k (ps.map Prod.fst) ∧ Filled .u64 wr w1.heap.size 30 n k (ps.map Prod.snd) ∧ Below w.heap.size w wr) (fun i _ => n - (intOf i).toNat)
  case atStart => exact ⟨0, Nat.zero_le _, rfl, F1, G0, B2⟩
  case round =>
    obtain ⟨k, hk, rfl, hF, hG, hb⟩ := hrel
    clear F1 G0 B2
    by_cases hlt : k < n
    · obtain ⟨p, hp⟩ : ∃ p, ps[k]? = some p := ⟨ps[k]'(by rw [HN.out]; exact hlt), by simp⟩
      obtain ⟨d0, d1⟩ := (h.below hb).at hlt hp
      obtain ⟨u0, x0⟩ := hF.cell hlt
      obtain ⟨u1, x1⟩ := hG.cell hlt
      have f0 := hF.frozen k
      have f1 := hG.frozen k
      have V : Hid _ := hp
      have hne : ¬ w.heap.size = w1.heap.size := by omega
      have hgne : ¬ g = w.heap.size := by omega
      clear hp
      go_wp2
      go_roundw
      case rel =>
        have q0 : (ps.map Prod.fst)[k]? = some p.1 := by simp [V.out]
        have q1 : (ps.map Prod.snd)[k]? = some p.2 := by simp [V.out]
        exact ⟨k + 1, by omega, by go_num, (hF.step hlt q0).other (by simpa using hne) _, (hG.other (by simpa using Ne.symm hne) _).step hlt q1, (hb.setCell (Nat.le_refl _) _).setCell (by simp; omega) _⟩
      case measure => simp [intOf]; omega
    · go_wp2
      go_ret2
      obtain rfl : k = n := by omega
      exact ⟨_, _, _, _, rfl, hF.ints (by simp [HN.out]), hG.ints (by simp [HN.out]), hb⟩
end Go.Proofs.Qxb6602705a
