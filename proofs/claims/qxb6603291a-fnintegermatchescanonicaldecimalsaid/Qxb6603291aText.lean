import Derived.Test.Qxb6603291aApp
namespace Go.Proofs.Qxb6603291a
open Go.RowKit
set_option linter.unusedVariables false

theorem BRow.set {w : World} {g cap : Nat} {zs : List Int} (h : BRow w g cap zs) {a : Addr} (ha : g ≠ a.block) (v : Value) : BRow (w.setCell a v) g cap zs := h.same (Below.heap_setCell _ _ _ _ ha)
theorem BRow.alloc {w : World} {g cap : Nat} {zs : List Int} (h : BRow w g cap zs) (o : Obj) : BRow (w.alloc o) g cap zs := h.same (Below.heap_alloc _ _ _ h.lt)
theorem ints_box (X : World) (v : Int) (T : TypeId) : Ints .u8 (X.alloc (.cells #[.int .u8 v] T)) (some ⟨X.heap.size, 0, none⟩) [v] := by
  refine ⟨X.heap.size, 0, fun _ => rfl, fun i x hx => ?_⟩
  match i, hx with
  | 0, hx => simp at hx; subst hx; rw [World.cell?_alloc_at _ _ _ _ rfl]; rfl

/-- The law of 'append(dst, src...)' where there is room, for the walk. -/
theorem wpList_app {ops : Array Oper} {rest : List Oper} {o : Oper} {act : Act} {Q : Exit → Act → World → Prop} {w : World} (hgd : o.guard = none) (s x : Operand) (ho : o.op = .call { callee := .builtin .append, args := #[s, x], argTypes := #[22, 22] })
    (g cap : Nat) (zs ys : List Int) (ad : Option Addr) (n m c : Nat) (hs : act.eval s = .slice (some ⟨g, 0, none⟩) n cap) (hx : act.eval x = .slice ad m c) (hn : zs.length = n) (hm : ys.length = m) (hB : BRow w g cap zs) (hI : Ints .u8 w ad ys) (hroom : n + m ≤ cap)
    (h : ∀ W, BRow W g cap (zs ++ ys) → W.heap.size = w.heap.size → (∀ k, k ≠ g → W.heap[k]? = w.heap[k]?) → Below g w W → wpList Try.prog ops Q rest (act.put o.dst (.slice (some ⟨g, 0, none⟩) (n + m) cap)) W) :
    wpList Try.prog ops Q (o :: rest) act w := by
  subst hn
  subst hm
  obtain ⟨W, hr, h1, h2, h3, h4⟩ := run_app w g cap zs ys ad c hB hI hroom
  exact Lib.wpList_append_run w hgd s x 22 22 ho _ _ hs hx _ _ (hr _) (h W h1 h2 h3 h4)

/-- The array of twenty bytes: from place K on it holds t. -/
def ARow (w : World) (B K : Nat) (t : List Int) : Prop :=
  K + t.length = 20 ∧ ∃ cs : Array Value, w.heap[B]? = some (.cells cs 39 (0, 0)) ∧ cs.size = 20 ∧ ∀ (i : Nat) (x : Int), t[i]? = some x → cs[K + i]? = some (Value.int .u8 x)
theorem ARow.cell {w : World} {B K : Nat} {t : List Int} (h : ARow w B K t) {i : Nat} (hi : i < 20) : ∃ v, w.cell? ⟨B, i, none⟩ = some v := by
  obtain ⟨_, cs, h1, h2, _⟩ := h
  exact ⟨cs[i], by simp [World.cell?, h1, h2, hi]⟩
theorem ARow.frozen {w : World} {B K : Nat} {t : List Int} (h : ARow w B K t) (i : Nat) : w.frozen? ⟨B, i, none⟩ = false := by
  obtain ⟨_, cs, h1, h2, _⟩ := h
  simp [World.frozen?, h1]
theorem ARow.same {w w' : World} {B K : Nat} {t : List Int} (h : ARow w B K t) (e : w'.heap[B]? = w.heap[B]?) : ARow w' B K t := by
  obtain ⟨h0, cs, h1, h2, h3⟩ := h
  exact ⟨h0, cs, by rw [e]; exact h1, h2, h3⟩
theorem ARow.step {w : World} {B K : Nat} {t : List Int} (h : ARow w B (K + 1) t) (v : Int) : ARow (w.setCell ⟨B, K, none⟩ (.int .u8 v)) B K (v :: t) := by
  obtain ⟨h0, cs, h1, h2, h3⟩ := h
  refine ⟨by simp only [List.length_cons]; omega, cs.setIfInBounds K (.int .u8 v), heap_setCell_same w B K cs 39 _ h1, by simpa using h2, fun i x hx => ?_⟩
  match i, hx with
  | 0, hx => simp at hx; subst hx; rw [Nat.add_zero, Array.getElem?_setIfInBounds_self_of_lt (by omega)]
  | i + 1, hx =>
    rw [Array.getElem?_setIfInBounds_ne (by omega), show K + (i + 1) = K + 1 + i by omega]
    exact h3 i x (by simpa using hx)
theorem ARow.ints {w : World} {B K : Nat} {t : List Int} (h : ARow w B K t) : Ints .u8 w (some ⟨B, K, none⟩) t := by
  obtain ⟨h0, cs, h1, h2, h3⟩ := h
  refine ⟨B, K, fun _ => rfl, fun i x hx => ?_⟩
  have := h3 i x hx
  simpa [World.cell?, h1] using this
theorem ARow.lt {w : World} {B K : Nat} {t : List Int} (h : ARow w B K t) : B < w.heap.size := by
  obtain ⟨h0, cs, h1, h2, h3⟩ := h
  exact (Array.getElem?_eq_some_iff.1 h1).1
theorem ARow.start (w : World) : ARow (w.alloc (.cells #[.int .u8 0, .int .u8 0, .int .u8 0, .int .u8 0, .int .u8 0, .int .u8 0, .int .u8 0, .int .u8 0, .int .u8 0, .int .u8 0, .int .u8 0, .int .u8 0, .int .u8 0, .int .u8 0, .int .u8 0, .int .u8 0, .int .u8 0, .int .u8 0, .int .u8 0, .int .u8 0] 39)) w.heap.size 20 [] :=
  ⟨rfl, _, heap_alloc_new w _, rfl, fun i x hx => by simp at hx⟩

/-- What the digits written so far and the rest come to. -/
def Txt (U u : Int) (t : List Int) : Prop := 0 ≤ u ∧ (∀ v ∈ t, Dig v) ∧ u * 10 ^ t.length + dval t = U ∧ (t ≠ [] → 1 ≤ u)
theorem txt_start (U : Int) (h : 0 ≤ U) : Txt U U [] := ⟨h, fun v hv => by simp at hv, by simp [dval], fun h => absurd rfl h⟩
theorem txt_len {U u : Int} {t : List Int} (h : Txt U u t) (hU : U ≤ 999999999999999999) : t.length ≤ 17 := by
  rcases Nat.lt_or_ge 17 t.length with hlt | hge
  · exfalso
    have hne : t ≠ [] := by intro e; subst e; simp at hlt
    have h1 := h.2.2.2 hne
    have h2 := (dval_bd t h.2.1).1
    have h3 := pow_mono (show 18 ≤ t.length by omega)
    have e : (10 : Int) ^ 18 = 1000000000000000000 := by decide
    have h4 := h.2.2.1
    generalize (10 : Int) ^ t.length = P at *
    have : 1 * P ≤ u * P := Int.mul_le_mul_of_nonneg_right h1 (by omega)
    omega
  · exact hge
theorem txt_u {U u : Int} {t : List Int} (h : Txt U u t) : u ≤ U := by
  have h2 := (dval_bd t h.2.1).1
  have h4 := h.2.2.1
  have hp := pow_pos t.length
  generalize (10 : Int) ^ t.length = P at *
  have : u * 1 ≤ u * P := Int.mul_le_mul_of_nonneg_left hp h.1
  omega
theorem txt_step {U u : Int} {t : List Int} (h : Txt U u t) (hu : 10 ≤ u) : Txt U (u / 10) ((48 + u % 10) :: t) := by
  refine ⟨by omega, fun v hv => ?_, ?_, fun _ => by omega⟩
  · rcases List.mem_cons.1 hv with rfl | hv
    · unfold Dig; omega
    · exact h.2.1 v hv
  · rw [dval_cons, List.length_cons, Int.pow_succ, ← h.2.2.1]
    generalize (10 : Int) ^ t.length = P
    have e1 : u / 10 * (P * 10) = 10 * (u / 10) * P := by rw [Int.mul_comm P 10, ← Int.mul_assoc, Int.mul_comm (u / 10) 10]
    have e2 : (48 + u % 10 - 48) * P = (u % 10) * P := by rw [show 48 + u % 10 - 48 = u % 10 by omega]
    have e3 : u * P = 10 * (u / 10) * P + (u % 10) * P := by rw [← Int.add_mul]; congr 1; omega
    omega
theorem txt_end {U u : Int} {t : List Int} (h : Txt U u t) (hu : u < 10) : Canon ((48 + u) :: t) ∧ dval ((48 + u) :: t) = U := by
  refine ⟨⟨by simp, fun v hv => ?_, ?_⟩, ?_⟩
  · rcases List.mem_cons.1 hv with rfl | hv
    · have := h.1; unfold Dig; omega
    · exact h.2.1 v hv
  · by_cases e : t = []
    · subst e; exact Or.inl rfl
    · have := h.2.2.2 e
      refine Or.inr ?_
      simp
      omega
  · rw [dval_cons, show 48 + u - 48 = u by omega]; exact h.2.2.1
theorem wrap_neg {n : Int} (h1 : -999999999999999999 ≤ n) (h0 : n < 0) : IntKind.u64.wrap (-IntKind.u64.wrap n) = -n := by
  rw [IntKind.wrap_u64, IntKind.wrap_u64]; omega

/-- 'buf[k:]' of the array of twenty bytes. -/
theorem run_cut (B J : Nat) (hJ : J < 20) (W : World) : (Instr.sliceAt 39 (.pointer (some ⟨B, 0, none⟩)) (some (.int .i64 (J : Int))) none none).run Try.prog W = .ok (.slice (some ⟨B, J, none⟩) (20 - J) (20 - J)) W := by
  have hu : Try.prog.underlying 39 = some (.array 20 5) := Try.underlying39
  obtain ⟨i0, hi0, hz0, hz1, hz2⟩ := info_parts Try.info5
  have hJ' : (J : Int) ≤ 20 := by omega
  have hne : ¬ 20 = J := by omega
  simp [Instr.sliceAt, Instr.sureAddr, run_underlying hu, Instr.sliceBounds, run_sliceBound, hJ', sizeOf, typeInfo, hi0, hz1, hne, Addr.add_lit]

/-- The sign ahead of the digits. -/
def sign (n : Int) : List Int := if n < 0 then [45] else []
/-- What zzAppendInt64 leaves. -/
def TextSays (g : Nat) (n : Int) (w : World) (e : Ending) (w' : World) : Prop :=
  ∃ ds, Canon ds ∧ dval ds = (n.natAbs : Int) ∧ e = .returned (.slice (some ⟨g, 0, none⟩) (sign n ++ ds).length 20) ∧ BRow w' g 20 (sign n ++ ds) ∧ Below g w w'

set_option maxHeartbeats 1000000 in
theorem text_pos (g : Nat) (n : Int) (w : World) (h1 : n ≤ 999999999999999999) (h0 : 0 ≤ n) (h : BRow w g 20 []) :
    Calls Try.prog 12 #[.slice (some ⟨g, 0, none⟩) 0 20, .int .i64 n] w fun e w' => TextSays g n w e w' := by
  have hgw := h.lt
  have hA := ARow.start w
  have hd0 : decide (n < 0) = false := decide_eq_false (by omega)
  have hB0 : BRow (w.alloc (.cells #[.int .u8 0, .int .u8 0, .int .u8 0, .int .u8 0, .int .u8 0, .int .u8 0, .int .u8 0, .int .u8 0, .int .u8 0, .int .u8 0, .int .u8 0, .int .u8 0, .int .u8 0, .int .u8 0, .int .u8 0, .int .u8 0, .int .u8 0, .int .u8 0, .int .u8 0, .int .u8 0] 39)) g 20 [] := h.alloc _
  have hb0 : Below g w (w.alloc (.cells #[.int .u8 0, .int .u8 0, .int .u8 0, .int .u8 0, .int .u8 0, .int .u8 0, .int .u8 0, .int .u8 0, .int .u8 0, .int .u8 0, .int .u8 0, .int .u8 0, .int .u8 0, .int .u8 0, .int .u8 0, .int .u8 0, .int .u8 0, .int .u8 0, .int .u8 0, .int .u8 0] 39)) := (Below.refl _ _).alloc (by omega) _
  have HA : Hid _ := hA
  have HB0 : Hid _ := hB0
  have Hb0 : Hid _ := hb0
  clear hA hB0 hb0
  go_enter Try.func12, Try.ntmps12
  go_wp2
  go_loopw [6, 8] (fun s6 s8 wr => ∃ (K : Nat) (u : Int) (t : List Int), s8 = .int .i64 K ∧ s6 = .int .u64 u ∧ Hid (Txt n u t) ∧ ARow wr w.heap.size K t ∧ BRow wr g 20 [] ∧ Below g w wr) (fun _ s8 _ => (intOf s8).toNat)
  case atStart => exact ⟨20, n, [], rfl, rfl, txt_start n h0, HA.out, HB0.out, Hb0.out⟩
  case round =>
    obtain ⟨K, u, t, rfl, rfl, hT, hrow, hB, hb⟩ := hrel
    clear HA HB0 Hb0
    have hlen := txt_len hT.out h1
    have hu0 := hT.out.1
    have hu1 : u ≤ 999999999999999999 := by have := txt_u hT.out; omega
    have hK := hrow.1
    obtain ⟨J, rfl⟩ : ∃ J, K = J + 1 := ⟨K - 1, by omega⟩
    have hJ : J < 20 := by omega
    obtain ⟨ov, z0⟩ := hrow.cell hJ
    have f0 := hrow.frozen J
    have hne : ¬ g = w.heap.size := by omega
    by_cases hu : 10 ≤ u
    · go_wp2
      go_roundw
      case rel => exact ⟨J, u / 10, (48 + u % 10) :: t, by go_num, rfl, txt_step hT.out hu, hrow.step _, hB.set (by simpa using hne) _, hb.setCell (p := ⟨w.heap.size, J, none⟩) (by show g ≤ w.heap.size; omega) _⟩
      case measure => simp [intOf]
    · obtain ⟨hc, hv⟩ := txt_end hT.out (by omega)
      have hrow' := hrow.step (48 + u)
      have hB' : BRow (wr.setCell ⟨w.heap.size, J, none⟩ (.int .u8 (48 + u))) g 20 [] := hB.set (by simpa using hne) _
      have hb' : Below g w (wr.setCell ⟨w.heap.size, J, none⟩ (.int .u8 (48 + u))) := hb.setCell (p := ⟨w.heap.size, J, none⟩) (by show g ≤ w.heap.size; omega) _
      have HI : Hid _ := hrow'.ints
      have HB' : Hid _ := hB'
      have Hb' : Hid _ := hb'
      have HC : Hid (Canon ((48 + u) :: t)) := hc
      have HV : Hid (dval ((48 + u) :: t) = n) := hv
      have HL : Hid (J + ((48 + u) :: t).length = 20) := hrow'.1
      clear hrow' hB' hb' hc hv hrow hB hb hT
      have hcut := fun W => run_cut w.heap.size J hJ W
      have HJ : Hid (((48 + u) :: t).length = 20 - J) := by have := HL.out; show _ = _; omega
      go_wp2_with (at_builtin; refine wpList_app rfl (.tmp 40) (.tmp 42) rfl g 20 [] ((48 + u) :: t) _ 0 (20 - J) (20 - J) rfl rfl rfl HJ.out HB'.out HI.out (by omega) ?_; intro W1 k1 k2 k3 k4)
      go_ret
      refine ⟨(48 + u) :: t, HC.out, by rw [HV.out]; omega, ?_, ?_, Hb'.out.trans k4⟩
      · have e : sign n = [] := by unfold sign; exact if_neg (by omega)
        rw [e, List.nil_append, HJ.out]
        rfl
      · have e : sign n = [] := by unfold sign; exact if_neg (by omega)
        rw [e]; exact k1
set_option maxHeartbeats 1000000 in
theorem text_neg (g : Nat) (n : Int) (w : World) (h1 : -999999999999999999 ≤ n) (h0 : n < 0) (h : BRow w g 20 []) :
    Calls Try.prog 12 #[.slice (some ⟨g, 0, none⟩) 0 20, .int .i64 n] w fun e w' => TextSays g n w e w' := by
  have hgw := h.lt
  have hA := ARow.start w
  have hd0 : decide (n < 0) = true := decide_eq_true h0
  have hB0 : BRow (w.alloc (.cells #[.int .u8 0, .int .u8 0, .int .u8 0, .int .u8 0, .int .u8 0, .int .u8 0, .int .u8 0, .int .u8 0, .int .u8 0, .int .u8 0, .int .u8 0, .int .u8 0, .int .u8 0, .int .u8 0, .int .u8 0, .int .u8 0, .int .u8 0, .int .u8 0, .int .u8 0, .int .u8 0] 39)) g 20 [] := h.alloc _
  have hb0 : Below g w (w.alloc (.cells #[.int .u8 0, .int .u8 0, .int .u8 0, .int .u8 0, .int .u8 0, .int .u8 0, .int .u8 0, .int .u8 0, .int .u8 0, .int .u8 0, .int .u8 0, .int .u8 0, .int .u8 0, .int .u8 0, .int .u8 0, .int .u8 0, .int .u8 0, .int .u8 0, .int .u8 0, .int .u8 0] 39)) := (Below.refl _ _).alloc (by omega) _
  have HA : Hid _ := hA
  have HB0 : Hid _ := hB0
  have Hb0 : Hid _ := hb0
  clear hA hB0 hb0
  go_enter Try.func12, Try.ntmps12
  go_wp2
  go_loopw [6, 8] (fun s6 s8 wr => ∃ (K : Nat) (u : Int) (t : List Int), s8 = .int .i64 K ∧ s6 = .int .u64 u ∧ Hid (Txt (-n) u t) ∧ ARow wr w.heap.size K t ∧ BRow wr g 20 [] ∧ Below g w wr) (fun _ s8 _ => (intOf s8).toNat)
  case atStart => exact ⟨20, -n, [], rfl, by rw [wrap_neg h1 h0], txt_start (-n) (by omega), HA.out, HB0.out, Hb0.out⟩
  case round =>
    obtain ⟨K, u, t, rfl, rfl, hT, hrow, hB, hb⟩ := hrel
    clear HA HB0 Hb0
    have hlen := txt_len hT.out (by omega)
    have hu0 := hT.out.1
    have hu1 : u ≤ 999999999999999999 := by have := txt_u hT.out; omega
    have hK := hrow.1
    obtain ⟨J, rfl⟩ : ∃ J, K = J + 1 := ⟨K - 1, by omega⟩
    have hJ : J < 20 := by omega
    obtain ⟨ov, z0⟩ := hrow.cell hJ
    have f0 := hrow.frozen J
    have hne : ¬ g = w.heap.size := by omega
    by_cases hu : 10 ≤ u
    · go_wp2
      go_roundw
      case rel => exact ⟨J, u / 10, (48 + u % 10) :: t, by go_num, rfl, txt_step hT.out hu, hrow.step _, hB.set (by simpa using hne) _, hb.setCell (p := ⟨w.heap.size, J, none⟩) (by show g ≤ w.heap.size; omega) _⟩
      case measure => simp [intOf]
    · obtain ⟨hc, hv⟩ := txt_end hT.out (by omega)
      have hrow' := hrow.step (48 + u)
      have hB' : BRow (wr.setCell ⟨w.heap.size, J, none⟩ (.int .u8 (48 + u))) g 20 [] := hB.set (by simpa using hne) _
      have hb' : Below g w (wr.setCell ⟨w.heap.size, J, none⟩ (.int .u8 (48 + u))) := hb.setCell (p := ⟨w.heap.size, J, none⟩) (by show g ≤ w.heap.size; omega) _
      have HI : Hid _ := hrow'.ints
      have HB' : Hid _ := hB'
      have Hb' : Hid _ := hb'
      have HC : Hid (Canon ((48 + u) :: t)) := hc
      have HV : Hid (dval ((48 + u) :: t) = -n) := hv
      have HL : Hid (J + ((48 + u) :: t).length = 20) := hrow'.1
      have HBL : Hid (w.heap.size < wr.heap.size) := hrow.lt
      have HAR : Hid (ARow (wr.setCell ⟨w.heap.size, J, none⟩ (.int .u8 (48 + u))) w.heap.size J ((48 + u) :: t)) := hrow'
      clear hrow' hB' hb' hc hv hrow hB hb hT
      have hcut := fun W => run_cut w.heap.size J hJ W
      have HJ : Hid (((48 + u) :: t).length = 20 - J) := by have := HL.out; show _ = _; omega
      have hsz : (wr.setCell ⟨w.heap.size, J, none⟩ (.int .u8 (48 + u))).heap.size = wr.heap.size := by simp [World.setCell]
      have HB2 : Hid (BRow ((wr.setCell ⟨w.heap.size, J, none⟩ (.int .u8 (48 + u))).alloc (.cells #[.int .u8 45] 5)) g 20 []) := BRow.alloc (show BRow _ g 20 [] from HB'.out) _
      have HI2 : Hid (Ints .u8 ((wr.setCell ⟨w.heap.size, J, none⟩ (.int .u8 (48 + u))).alloc (.cells #[.int .u8 45] 5)) (some ⟨wr.heap.size, 0, none⟩) [45]) := by
        have := ints_box (wr.setCell ⟨w.heap.size, J, none⟩ (.int .u8 (48 + u))) 45 5
        rw [hsz] at this
        exact this
      have HX : Hid (∀ W1 : World, (∀ k, k ≠ g → W1.heap[k]? = ((wr.setCell ⟨w.heap.size, J, none⟩ (.int .u8 (48 + u))).alloc (.cells #[.int .u8 45] 5)).heap[k]?) → Ints .u8 W1 (some ⟨w.heap.size, J, none⟩) ((48 + u) :: t)) := by
        intro W1 k3
        refine (HAR.out.same ((k3 w.heap.size (Ne.symm hne)).trans (Below.heap_alloc _ _ _ ?_))).ints
        rw [hsz]; exact HBL.out
      have HbX : Hid (Below g w ((wr.setCell ⟨w.heap.size, J, none⟩ (.int .u8 (48 + u))).alloc (.cells #[.int .u8 45] 5))) := by
        have hx : Below g w (wr.setCell ⟨w.heap.size, J, none⟩ (.int .u8 (48 + u))) := Hb'.out
        exact hx.alloc (by rw [hsz]; have := HBL.out; omega) _
      clear hsz HI HB' Hb' HAR
      go_wp2_with (first | (at_builtin; refine wpList_app rfl (.tmp 37) (.tmp 38) rfl g 20 [] [45] _ 0 1 1 rfl rfl rfl rfl HB2.out HI2.out (by omega) ?_; intro W1 k1 k2 k3 k4; have KX : Hid _ := HX.out W1 k3; have KB : Hid _ := k1; have K4 : Hid _ := k4; clear k1 k2 k3 k4) | (at_builtin; refine wpList_app rfl (.tmp 40) (.tmp 42) rfl g 20 [45] ((48 + u) :: t) _ 1 (20 - J) (20 - J) rfl rfl rfl HJ.out KB.out KX.out (by omega) ?_; intro W2 m1 m2 m3 m4))
      go_ret
      have e : sign n = [45] := by unfold sign; exact if_pos h0
      refine ⟨(48 + u) :: t, HC.out, by rw [HV.out]; omega, ?_, ?_, (HbX.out.trans K4.out).trans m4⟩
      · rw [e, List.length_append, HJ.out]
        rfl
      · rw [e]; exact m1

theorem text_any (g : Nat) (n : Int) (w : World) (h1 : -999999999999999999 ≤ n) (h2 : n ≤ 999999999999999999) (h : BRow w g 20 []) :
    Calls Try.prog 12 #[.slice (some ⟨g, 0, none⟩) 0 20, .int .i64 n] w fun e w' => TextSays g n w e w' := by
  by_cases h0 : 0 ≤ n
  · exact text_pos g n w h2 h0 h
  · exact text_neg g n w h1 (by omega) h
end Go.Proofs.Qxb6603291a
