import Derived.Test.Qxb6603291aBase
import Derived.Test.Qxb6603291aDec
namespace Go.Proofs.Qxb6603291a
open Go.RowKit
set_option linter.unusedVariables false

/-- Is it a digit? -/
def isDig (v : Int) : Bool := decide (48 ≤ v ∧ v ≤ 57)
theorem isDig_yes {v : Int} (h : Dig v) : isDig v = true := decide_eq_true h
theorem isDig_no {v : Int} (h : ¬ Dig v) : isDig v = false := decide_eq_false h

theorem isdig_any (v : Int) (w : World) : Calls Try.prog 21 #[.int .u8 v] w fun e w' => e = .returned (.bool (isDig v)) ∧ w' = w := by
  by_cases h : 48 ≤ v
  · by_cases h2 : v ≤ 57
    · have A : Hid (isDig v = true) := isDig_yes ⟨h, h2⟩
      have hd : decide (v ≤ 57) = true := decide_eq_true h2
      go_enter Try.func21, Try.ntmps21
      go_wp2
      go_ret
      exact ⟨by rw [A.out]; rfl, rfl⟩
    · have A : Hid (isDig v = false) := isDig_no (fun h => h2 h.2)
      have hd : decide (v ≤ 57) = false := decide_eq_false h2
      go_enter Try.func21, Try.ntmps21
      go_wp2
      go_ret
      exact ⟨by rw [A.out]; rfl, rfl⟩
  · have A : Hid (isDig v = false) := isDig_no (fun x => h x.1)
    have hd : decide (48 ≤ v) = false := decide_eq_false h
    go_enter Try.func21, Try.ntmps21
    go_wp2
    go_ret
    exact ⟨by rw [A.out]; rfl, rfl⟩

/-- Where the digits begin. -/
def startOf (neg : Bool) (pos : Nat) : Nat := if neg then pos + 1 else pos
/-- The number that is read. -/
def numOf (neg : Bool) (l : List Int) : Int := if neg then - dval l else dval l
/-- Is there a '-' at the place? -/
def NegIs (neg : Bool) (zs : List Int) (pos : Nat) : Prop := neg = true ↔ zs[pos]? = some 45
/-- What 'integer' leaves: it fails and leaves all as it was; or it reads the run's value and moves the place behind it. -/
def IntSays (zs : List Int) (pos : Nat) (p : Nat) (w : World) (e : Ending) (w' : World) : Prop :=
  ∃ (neg : Bool) (en : Nat), NegIs neg zs pos ∧ Run zs (startOf neg pos) en ∧
    ((¬ (1 ≤ en - startOf neg pos ∧ en - startOf neg pos ≤ 18) ∧ e = .returned (.tuple #[.int .i64 0, .bool false]) ∧ w' = w) ∨
     ((1 ≤ en - startOf neg pos ∧ en - startOf neg pos ≤ 18) ∧ e = .returned (.tuple #[.int .i64 (numOf neg (seg zs (startOf neg pos) en)), .bool true]) ∧ w' = w.setCell ⟨p, 1, none⟩ (.int .i64 en)))

/-- A round of the reading loop, by the digits read so far. -/
def Read (zs : List Int) (s k : Nat) (n : Int) : Prop := (∀ i, s ≤ i → i < k → ∃ v, zs[i]? = some v ∧ Dig v) ∧ (k - s ≤ 18 → n = dval (seg zs s k))

theorem read_start (zs : List Int) (s : Nat) : Read zs s s 0 := ⟨fun i h1 h2 => by omega, fun _ => by rw [seg_nil]; rfl⟩
theorem read_bd {zs : List Int} {s k : Nat} {N : Int} (h : Read zs s k N) (hk : k ≤ zs.length ∨ k = s) (h17 : k - s ≤ 17) : 0 ≤ N ∧ N < 100000000000000000 := by
  rw [h.2 (by omega)]
  have hb := dval_bd (seg zs s k) (seg_mem h.1)
  have hl : (seg zs s k).length ≤ 17 := by simp [seg]; omega
  have hp := pow_mono hl
  have e : (10 : Int) ^ 17 = 100000000000000000 := by decide
  omega
theorem read_bd18 {zs : List Int} {s k : Nat} {N : Int} (h : Read zs s k N) (h18 : k - s ≤ 18) : 0 ≤ N ∧ N < 1000000000000000000 := by
  rw [h.2 h18]
  have hb := dval_bd (seg zs s k) (seg_mem h.1)
  have hl : (seg zs s k).length ≤ 18 := by simp [seg]; omega
  have hp := pow_mono hl
  have e : (10 : Int) ^ 18 = 1000000000000000000 := by decide
  omega
theorem read_step {zs : List Int} {s k : Nat} {N v : Int} (h : Read zs s k N) (hs : s ≤ k) (hv : zs[k]? = some v) (hd : Dig v) (hk : k - s ≤ 17) : Read zs s (k + 1) (10 * N + (v - 48)) := by
  refine ⟨fun i h1 h2 => ?_, fun _ => ?_⟩
  · by_cases e : i = k
    · subst e; exact ⟨v, hv, hd⟩
    · exact h.1 i h1 (by omega)
  · rw [seg_succ hs hv, dval_snoc, h.2 (by omega)]
theorem read_far {zs : List Int} {s k : Nat} {N v : Int} (h : Read zs s k N) (hs : s ≤ k) (hv : zs[k]? = some v) (hd : Dig v) (hk : 18 ≤ k - s) (N' : Int) : Read zs s (k + 1) N' := by
  refine ⟨fun i h1 h2 => ?_, fun _ => by omega⟩
  by_cases e : i = k
  · subst e; exact ⟨v, hv, hd⟩
  · exact h.1 i h1 (by omega)
theorem read_run {zs : List Int} {s k : Nat} {N : Int} (h : Read zs s k N) (hs : s ≤ k) (hn : ∀ v, zs[k]? = some v → ¬ Dig v) : Run zs s k := ⟨hs, h.1, hn⟩

set_option maxHeartbeats 2000000 in
theorem int_neg (a : Option Addr) (c : Nat) (zs : List Int) (pos : Nat) (p : Nat) (w : World) (hl : zs.length ≤ 2097152) (hpos : pos ≤ 9223372036854775807) (h : Ints .u8 w a zs) (hz : ∀ v ∈ zs, 0 ≤ v ∧ v ≤ 255)
    (c0 : w.cell? ⟨p, 0, none⟩ = some (.slice a zs.length c)) (c1 : w.cell? ⟨p, 1, none⟩ = some (.int .i64 pos)) (f1 : w.frozen? ⟨p, 1, none⟩ = false) (hcase : zs[pos]? = some 45) :
    Calls Try.prog 19 #[.pointer (some ⟨p, 0, none⟩)] w fun e w' => IntSays zs pos p w e w' := by
  have HZ : Hid (∀ v ∈ zs, 0 ≤ v ∧ v ≤ 255) := hz
  clear hz
  have NEG : Hid (NegIs true zs pos) := ⟨fun _ => hcase, fun _ => rfl⟩
  have hpl : pos < zs.length := (List.getElem?_eq_some_iff.1 hcase).1
  obtain ⟨b0, o0, q0, g0⟩ := h
  have z0 := g0 pos 45 hcase
  obtain rfl := q0 (ne_nil hpl)
  have G0 : Hid (∀ i x, zs[i]? = some x → w.cell? ⟨b0, o0 + i, none⟩ = some (.int .u8 x)) := g0
  clear g0 q0 hcase
  go_enter Try.func19, Try.ntmps19
  go_wp2
  clear z0
  go_loop [4, 6] (fun i n => ∃ (k : Nat) (N : Int), pos + 1 ≤ k ∧ (k ≤ zs.length ∨ k = pos + 1) ∧ i = .int .i64 k ∧ n = .int .i64 N ∧ Hid (Read zs (pos + 1) k N)) (fun i _ => zs.length - (intOf i).toNat)
  case atStart => exact ⟨pos + 1, 0, Nat.le_refl _, Or.inr rfl, by go_num, rfl, read_start _ _⟩
  case round =>
    obtain ⟨k, N, hsk, hkl, rfl, rfl, hr⟩ := hrel
    have hk63 : k ≤ 9223372036854775807 := by omega
    by_cases hlt : k < zs.length
    · obtain ⟨v, hv⟩ := at_some hlt
      have z0 := G0.out k v hv
      have hvb := HZ.out v (List.mem_of_getElem? hv)
      have V : Hid (zs[k]? = some v) := hv
      clear hv
      by_cases hd : Dig v
      · have hdb := isDig_yes hd
        have HD : Hid (Dig v) := hd
        obtain ⟨hd1, hd2⟩ := hd
        by_cases h17 : k - (pos + 1) ≤ 17
        · obtain ⟨hN0, hN1⟩ := read_bd hr.out hkl h17
          go_wp2_with (go_at_call 21; refine (isdig_any _ _).mono ?_; rintro e w' ⟨rfl, rfl⟩)
          go_round
          case rel => exact ⟨k + 1, _, by omega, Or.inl (by omega), by go_num, rfl, read_step hr.out hsk V.out HD.out h17⟩
          case measure => simp [intOf]; omega
        · go_wp2_with (go_at_call 21; refine (isdig_any _ _).mono ?_; rintro e w' ⟨rfl, rfl⟩)
          go_round
          case rel => exact ⟨k + 1, _, by omega, Or.inl (by omega), by go_num, rfl, read_far hr.out hsk V.out HD.out (by omega) _⟩
          case measure => simp [intOf]; omega
      · have hdb := isDig_no hd
        have HRun : Hid (Run zs (pos + 1) k) := read_run hr.out hsk (fun v' hv' => by have := V.out.symm.trans hv'; simp at this; subst this; exact hd)
        clear hd
        by_cases h0 : k = pos + 1
        · have hb0 : ((k : Int) == ((pos : Int) + 1)) = true := by simp; omega
          have H0 : Hid (k = pos + 1) := h0
          clear h0
          go_wp2_with (go_at_call 21; refine (isdig_any _ _).mono ?_; rintro e w' ⟨rfl, rfl⟩)
          go_ret2
          exact ⟨true, k, NEG.out, HRun.out, Or.inl ⟨fun hx => by have := H0.out; have := hx.1; simp [startOf] at this; omega, rfl, rfl⟩⟩
        · have hb0 : ((k : Int) == ((pos : Int) + 1)) = false := by simp; omega
          have hgt : (pos + 1) < k := by omega
          clear h0
          by_cases h18 : k - (pos + 1) ≤ 18
          · obtain ⟨hN0, hN1⟩ := read_bd18 hr.out h18
            have hb1 : decide ((18 : Int) < (k : Int) - ((pos : Int) + 1)) = false := decide_eq_false (by omega)
            have HV : Hid (numOf true (seg zs (pos + 1) k) = -N) := by show _ = _; rw [hr.out.2 h18]; rfl
            go_wp2_with (go_at_call 21; refine (isdig_any _ _).mono ?_; rintro e w' ⟨rfl, rfl⟩)
            go_ret2
            refine ⟨true, k, NEG.out, HRun.out, Or.inr ⟨⟨by simp [startOf]; omega, by simp [startOf]; omega⟩, ?_, rfl⟩⟩
            have := HV.out
            simp only [startOf, if_true] at this ⊢
            rw [this]
            rfl
          · have hb1 : decide ((18 : Int) < (k : Int) - ((pos : Int) + 1)) = true := decide_eq_true (by omega)
            go_wp2_with (go_at_call 21; refine (isdig_any _ _).mono ?_; rintro e w' ⟨rfl, rfl⟩)
            go_ret2
            exact ⟨true, k, NEG.out, HRun.out, Or.inl ⟨fun hx => by have := hx.2; simp [startOf] at this; omega, rfl, rfl⟩⟩
    · have HRun : Hid (Run zs (pos + 1) k) := read_run hr.out hsk (fun v' hv' => by rw [List.getElem?_eq_none (by omega)] at hv'; simp at hv')
      by_cases h0 : k = pos + 1
      · have hb0 : ((k : Int) == ((pos : Int) + 1)) = true := by simp; omega
        have H0 : Hid (k = pos + 1) := h0
        clear h0
        go_wp2
        go_ret2
        exact ⟨true, k, NEG.out, HRun.out, Or.inl ⟨fun hx => by have := H0.out; have := hx.1; simp [startOf] at this; omega, rfl, rfl⟩⟩
      · have hb0 : ((k : Int) == ((pos : Int) + 1)) = false := by simp; omega
        have hgt : (pos + 1) < k := by omega
        clear h0
        by_cases h18 : k - (pos + 1) ≤ 18
        · obtain ⟨hN0, hN1⟩ := read_bd18 hr.out h18
          have hb1 : decide ((18 : Int) < (k : Int) - ((pos : Int) + 1)) = false := decide_eq_false (by omega)
          have HV : Hid (numOf true (seg zs (pos + 1) k) = -N) := by show _ = _; rw [hr.out.2 h18]; rfl
          go_wp2
          go_ret2
          refine ⟨true, k, NEG.out, HRun.out, Or.inr ⟨⟨by simp [startOf]; omega, by simp [startOf]; omega⟩, ?_, rfl⟩⟩
          have := HV.out
          simp only [startOf, if_true] at this ⊢
          rw [this]
          rfl
        · have hb1 : decide ((18 : Int) < (k : Int) - ((pos : Int) + 1)) = true := decide_eq_true (by omega)
          go_wp2
          go_ret2
          exact ⟨true, k, NEG.out, HRun.out, Or.inl ⟨fun hx => by have := hx.2; simp [startOf] at this; omega, rfl, rfl⟩⟩

set_option maxHeartbeats 2000000 in
theorem int_pos (a : Option Addr) (c : Nat) (zs : List Int) (pos : Nat) (p : Nat) (w : World) (hl : zs.length ≤ 2097152) (hpos : pos ≤ 9223372036854775807) (h : Ints .u8 w a zs) (hz : ∀ v ∈ zs, 0 ≤ v ∧ v ≤ 255)
    (c0 : w.cell? ⟨p, 0, none⟩ = some (.slice a zs.length c)) (c1 : w.cell? ⟨p, 1, none⟩ = some (.int .i64 pos)) (f1 : w.frozen? ⟨p, 1, none⟩ = false) (hcase : ∃ v, zs[pos]? = some v ∧ v ≠ 45) :
    Calls Try.prog 19 #[.pointer (some ⟨p, 0, none⟩)] w fun e w' => IntSays zs pos p w e w' := by
  have HZ : Hid (∀ v ∈ zs, 0 ≤ v ∧ v ≤ 255) := hz
  clear hz
  obtain ⟨v, hv, hne⟩ := hcase
  have NEG : Hid (NegIs false zs pos) := ⟨fun x => by simp at x, fun x => by rw [hv] at x; simp at x; exact absurd x hne⟩
  have hpl : pos < zs.length := (List.getElem?_eq_some_iff.1 hv).1
  obtain ⟨b0, o0, q0, g0⟩ := h
  have z0 := g0 pos v hv
  have hv45 : (v == 45) = false := by simp [hne]
  obtain rfl := q0 (ne_nil hpl)
  have G0 : Hid (∀ i x, zs[i]? = some x → w.cell? ⟨b0, o0 + i, none⟩ = some (.int .u8 x)) := g0
  clear g0 q0 hv hne
  go_enter Try.func19, Try.ntmps19
  go_wp2
  clear z0 hv45
  go_loop [4, 6] (fun i n => ∃ (k : Nat) (N : Int), pos ≤ k ∧ (k ≤ zs.length ∨ k = pos) ∧ i = .int .i64 k ∧ n = .int .i64 N ∧ Hid (Read zs (pos) k N)) (fun i _ => zs.length - (intOf i).toNat)
  case atStart => exact ⟨pos, 0, Nat.le_refl _, Or.inr rfl, by go_num, rfl, read_start _ _⟩
  case round =>
    obtain ⟨k, N, hsk, hkl, rfl, rfl, hr⟩ := hrel
    have hk63 : k ≤ 9223372036854775807 := by omega
    by_cases hlt : k < zs.length
    · obtain ⟨v, hv⟩ := at_some hlt
      have z0 := G0.out k v hv
      have hvb := HZ.out v (List.mem_of_getElem? hv)
      have V : Hid (zs[k]? = some v) := hv
      clear hv
      by_cases hd : Dig v
      · have hdb := isDig_yes hd
        have HD : Hid (Dig v) := hd
        obtain ⟨hd1, hd2⟩ := hd
        by_cases h17 : k - (pos) ≤ 17
        · obtain ⟨hN0, hN1⟩ := read_bd hr.out hkl h17
          go_wp2_with (go_at_call 21; refine (isdig_any _ _).mono ?_; rintro e w' ⟨rfl, rfl⟩)
          go_round
          case rel => exact ⟨k + 1, _, by omega, Or.inl (by omega), by go_num, rfl, read_step hr.out hsk V.out HD.out h17⟩
          case measure => simp [intOf]; omega
        · go_wp2_with (go_at_call 21; refine (isdig_any _ _).mono ?_; rintro e w' ⟨rfl, rfl⟩)
          go_round
          case rel => exact ⟨k + 1, _, by omega, Or.inl (by omega), by go_num, rfl, read_far hr.out hsk V.out HD.out (by omega) _⟩
          case measure => simp [intOf]; omega
      · have hdb := isDig_no hd
        have HRun : Hid (Run zs (pos) k) := read_run hr.out hsk (fun v' hv' => by have := V.out.symm.trans hv'; simp at this; subst this; exact hd)
        clear hd
        by_cases h0 : k = pos
        · have hb0 : ((k : Int) == ((pos : Int))) = true := by simp; omega
          have H0 : Hid (k = pos) := h0
          clear h0
          go_wp2_with (go_at_call 21; refine (isdig_any _ _).mono ?_; rintro e w' ⟨rfl, rfl⟩)
          go_ret2
          exact ⟨false, k, NEG.out, HRun.out, Or.inl ⟨fun hx => by have := H0.out; have := hx.1; simp [startOf] at this; omega, rfl, rfl⟩⟩
        · have hb0 : ((k : Int) == ((pos : Int))) = false := by simp; omega
          have hgt : (pos) < k := by omega
          clear h0
          by_cases h18 : k - (pos) ≤ 18
          · obtain ⟨hN0, hN1⟩ := read_bd18 hr.out h18
            have hb1 : decide ((18 : Int) < (k : Int) - ((pos : Int))) = false := decide_eq_false (by omega)
            have HV : Hid (numOf false (seg zs (pos) k) = N) := by show _ = _; rw [hr.out.2 h18]; rfl
            go_wp2_with (go_at_call 21; refine (isdig_any _ _).mono ?_; rintro e w' ⟨rfl, rfl⟩)
            go_ret2
            refine ⟨false, k, NEG.out, HRun.out, Or.inr ⟨⟨by simp [startOf]; omega, by simp [startOf]; omega⟩, ?_, rfl⟩⟩
            have := HV.out
            simp only [startOf, if_false, Bool.false_eq_true] at this ⊢
            rw [this]
            rfl
          · have hb1 : decide ((18 : Int) < (k : Int) - ((pos : Int))) = true := decide_eq_true (by omega)
            go_wp2_with (go_at_call 21; refine (isdig_any _ _).mono ?_; rintro e w' ⟨rfl, rfl⟩)
            go_ret2
            exact ⟨false, k, NEG.out, HRun.out, Or.inl ⟨fun hx => by have := hx.2; simp [startOf] at this; omega, rfl, rfl⟩⟩
    · have HRun : Hid (Run zs (pos) k) := read_run hr.out hsk (fun v' hv' => by rw [List.getElem?_eq_none (by omega)] at hv'; simp at hv')
      by_cases h0 : k = pos
      · have hb0 : ((k : Int) == ((pos : Int))) = true := by simp; omega
        have H0 : Hid (k = pos) := h0
        clear h0
        go_wp2
        go_ret2
        exact ⟨false, k, NEG.out, HRun.out, Or.inl ⟨fun hx => by have := H0.out; have := hx.1; simp [startOf] at this; omega, rfl, rfl⟩⟩
      · have hb0 : ((k : Int) == ((pos : Int))) = false := by simp; omega
        have hgt : (pos) < k := by omega
        clear h0
        by_cases h18 : k - (pos) ≤ 18
        · obtain ⟨hN0, hN1⟩ := read_bd18 hr.out h18
          have hb1 : decide ((18 : Int) < (k : Int) - ((pos : Int))) = false := decide_eq_false (by omega)
          have HV : Hid (numOf false (seg zs (pos) k) = N) := by show _ = _; rw [hr.out.2 h18]; rfl
          go_wp2
          go_ret2
          refine ⟨false, k, NEG.out, HRun.out, Or.inr ⟨⟨by simp [startOf]; omega, by simp [startOf]; omega⟩, ?_, rfl⟩⟩
          have := HV.out
          simp only [startOf, if_false, Bool.false_eq_true] at this ⊢
          rw [this]
          rfl
        · have hb1 : decide ((18 : Int) < (k : Int) - ((pos : Int))) = true := decide_eq_true (by omega)
          go_wp2
          go_ret2
          exact ⟨false, k, NEG.out, HRun.out, Or.inl ⟨fun hx => by have := hx.2; simp [startOf] at this; omega, rfl, rfl⟩⟩

set_option maxHeartbeats 2000000 in
theorem int_out (a : Option Addr) (c : Nat) (zs : List Int) (pos : Nat) (p : Nat) (w : World) (hl : zs.length ≤ 2097152) (hpos : pos ≤ 9223372036854775807) (h : Ints .u8 w a zs) (hz : ∀ v ∈ zs, 0 ≤ v ∧ v ≤ 255)
    (c0 : w.cell? ⟨p, 0, none⟩ = some (.slice a zs.length c)) (c1 : w.cell? ⟨p, 1, none⟩ = some (.int .i64 pos)) (f1 : w.frozen? ⟨p, 1, none⟩ = false) (hcase : zs.length ≤ pos) :
    Calls Try.prog 19 #[.pointer (some ⟨p, 0, none⟩)] w fun e w' => IntSays zs pos p w e w' := by
  have HZ : Hid (∀ v ∈ zs, 0 ≤ v ∧ v ≤ 255) := hz
  clear hz
  have NEG : Hid (NegIs false zs pos) := ⟨fun x => by simp at x, fun x => by rw [List.getElem?_eq_none hcase] at x; simp at x⟩
  have hd0 : decide ((pos : Int) < (zs.length : Int)) = false := decide_eq_false (by omega)
  go_enter Try.func19, Try.ntmps19
  go_wp2
  go_loop [4, 6] (fun i n => ∃ (k : Nat) (N : Int), pos ≤ k ∧ (k ≤ zs.length ∨ k = pos) ∧ i = .int .i64 k ∧ n = .int .i64 N ∧ Hid (Read zs (pos) k N)) (fun i _ => zs.length - (intOf i).toNat)
  case atStart => exact ⟨pos, 0, Nat.le_refl _, Or.inr rfl, by go_num, rfl, read_start _ _⟩
  case round =>
    obtain ⟨k, N, hsk, hkl, rfl, rfl, hr⟩ := hrel
    have hk63 : k ≤ 9223372036854775807 := by omega
    by_cases hlt : k < zs.length
    · exfalso; omega
    · have HRun : Hid (Run zs pos k) := read_run hr.out hsk (fun v' hv' => by rw [List.getElem?_eq_none (by omega)] at hv'; simp at hv')
      have h0 : k = pos := by omega
      have hb0 : ((k : Int) == (pos : Int)) = true := by simp; omega
      have H0 : Hid (k = pos) := h0
      clear h0
      go_wp2
      go_ret2
      exact ⟨false, k, NEG.out, HRun.out, Or.inl ⟨fun hx => by have := H0.out; have := hx.1; simp [startOf] at this; omega, rfl, rfl⟩⟩

theorem int_any (a : Option Addr) (c : Nat) (zs : List Int) (pos : Nat) (p : Nat) (w : World) (hl : zs.length ≤ 2097152) (hpos : pos ≤ 9223372036854775807) (h : Ints .u8 w a zs) (hz : ∀ v ∈ zs, 0 ≤ v ∧ v ≤ 255)
    (c0 : w.cell? ⟨p, 0, none⟩ = some (.slice a zs.length c)) (c1 : w.cell? ⟨p, 1, none⟩ = some (.int .i64 pos)) (f1 : w.frozen? ⟨p, 1, none⟩ = false) :
    Calls Try.prog 19 #[.pointer (some ⟨p, 0, none⟩)] w fun e w' => IntSays zs pos p w e w' := by
  by_cases hlt : pos < zs.length
  · obtain ⟨v, hv⟩ := at_some hlt
    by_cases hne : v = 45
    · subst hne; exact int_neg a c zs pos p w hl hpos h hz c0 c1 f1 hv
    · exact int_pos a c zs pos p w hl hpos h hz c0 c1 f1 ⟨v, hv, hne⟩
  · exact int_out a c zs pos p w hl hpos h hz c0 c1 f1 (by omega)
end Go.Proofs.Qxb6603291a
