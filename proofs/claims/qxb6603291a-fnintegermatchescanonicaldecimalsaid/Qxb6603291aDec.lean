/-
  THE PLAIN LAW OF DECIMAL TEXTS: bytes as numbers; no Go in sight.
-/
namespace Go.Proofs.Qxb6603291a

def Dig (v : Int) : Prop := 48 ≤ v ∧ v ≤ 57
/-- The value of a row of digits. -/
def dval (l : List Int) : Int := l.foldl (fun n v => 10 * n + (v - 48)) 0

theorem dval_snoc (l : List Int) (v : Int) : dval (l ++ [v]) = 10 * dval l + (v - 48) := by simp [dval]
theorem foldl_acc (l : List Int) : ∀ a : Int, l.foldl (fun n v => 10 * n + (v - 48)) a = a * 10 ^ l.length + dval l := by
  induction l with
  | nil => intro a; simp [dval]
  | cons v r ih =>
    intro a
    simp only [List.foldl_cons, dval, List.length_cons]
    rw [ih, ih (10 * 0 + (v - 48))]
    rw [Int.pow_succ]
    generalize (10 : Int) ^ r.length = P
    rw [Int.add_mul, Int.add_mul]
    have : 10 * a * P = a * (P * 10) := by rw [Int.mul_comm 10 a, Int.mul_assoc, Int.mul_comm 10 P]
    omega
theorem dval_cons (v : Int) (r : List Int) : dval (v :: r) = (v - 48) * 10 ^ r.length + dval r := by
  have := foldl_acc r (10 * 0 + (v - 48))
  simp only [dval, List.foldl_cons] at this ⊢
  rw [this]
  simp

theorem pow_pos (n : Nat) : (1 : Int) ≤ 10 ^ n := by
  induction n with
  | zero => simp
  | succ n ih => rw [Int.pow_succ]; omega
theorem pow_mono {a b : Nat} (h : a ≤ b) : (10 : Int) ^ a ≤ 10 ^ b := by
  obtain ⟨d, rfl⟩ := Nat.le.dest h
  rw [Int.pow_add]
  have h1 := pow_pos a
  have h2 := pow_pos d
  calc (10 : Int) ^ a = 10 ^ a * 1 := by simp
    _ ≤ 10 ^ a * 10 ^ d := Int.mul_le_mul_of_nonneg_left h2 (by omega)

theorem dval_bd (l : List Int) (h : ∀ v ∈ l, Dig v) : 0 ≤ dval l ∧ dval l < 10 ^ l.length := by
  induction l with
  | nil => simp [dval]
  | cons v r ih =>
    have hv := h v (by simp)
    have hr := ih fun x hx => h x (by simp [hx])
    rw [dval_cons, List.length_cons, Int.pow_succ]
    have hp := pow_pos r.length
    generalize (10 : Int) ^ r.length = P at *
    have h1 : 0 ≤ (v - 48) * P := Int.mul_nonneg (by have := hv.1; omega) (by omega)
    have h2 : (v - 48) * P ≤ 9 * P := Int.mul_le_mul_of_nonneg_right (by have := hv.2; omega) (by omega)
    omega

/-- A canonical text: digits, one at least, no leading nought but the lone one. -/
def Canon (l : List Int) : Prop := l ≠ [] ∧ (∀ v ∈ l, Dig v) ∧ (l.length = 1 ∨ l.head? ≠ some 48)

theorem canon_low {l : List Int} (h : Canon l) (h2 : 2 ≤ l.length) : (10 : Int) ^ (l.length - 1) ≤ dval l := by
  obtain ⟨h0, h1, h3⟩ := h
  cases l with
  | nil => exact absurd rfl h0
  | cons v r =>
    have hv := h1 v (by simp)
    have hne : v ≠ 48 := by
      rcases h3 with h3 | h3
      · omega
      · intro e; subst e; simp at h3
    have hr := dval_bd r fun x hx => h1 x (by simp [hx])
    rw [dval_cons]
    simp only [List.length_cons, Nat.add_sub_cancel]
    have hp := pow_pos r.length
    generalize (10 : Int) ^ r.length = P at *
    have : 1 * P ≤ (v - 48) * P := Int.mul_le_mul_of_nonneg_right (by have := hv.1; omega) (by omega)
    omega

theorem canon_len {l m : List Int} (hl : Canon l) (hm : Canon m) (h : dval l = dval m) : l.length ≤ m.length := by
  rcases Nat.lt_or_ge m.length l.length with hlt | hge
  · exfalso
    have hm0 : 1 ≤ m.length := by
      rcases Nat.eq_zero_or_pos m.length with e | e
      · exact absurd (List.length_eq_zero_iff.1 e) hm.1
      · exact e
    have h1 := canon_low hl (by omega)
    have h2 := (dval_bd m hm.2.1).2
    have h3 := pow_mono (show m.length ≤ l.length - 1 by omega)
    omega
  · exact hge

theorem dval_inj : ∀ (n : Nat) (l m : List Int), l.length = n → m.length = n → (∀ v ∈ l, Dig v) → (∀ v ∈ m, Dig v) → dval l = dval m → l = m
  | 0, l, m, hl, hm, _, _, _ => by rw [List.length_eq_zero_iff.1 hl, List.length_eq_zero_iff.1 hm]
  | n + 1, [], m, hl, _, _, _, _ => by simp at hl
  | n + 1, _, [], _, hm, _, _, _ => by simp at hm
  | n + 1, v :: r, u :: s, hl, hm, h1, h2, h => by
    simp only [List.length_cons, Nat.add_right_cancel_iff] at hl hm
    have hv := h1 v (by simp)
    have hu := h2 u (by simp)
    have hr := dval_bd r fun x hx => h1 x (by simp [hx])
    have hs := dval_bd s fun x hx => h2 x (by simp [hx])
    rw [dval_cons, dval_cons, hl, hm] at h
    rw [hl] at hr; rw [hm] at hs
    have hp := pow_pos n
    have hvu : v = u := by
      generalize (10 : Int) ^ n = P at *
      rcases Int.lt_trichotomy v u with hlt | e | hgt
      · exfalso
        have : (v - 48 + 1) * P ≤ (u - 48) * P := Int.mul_le_mul_of_nonneg_right (by omega) (by omega)
        rw [Int.add_mul] at this
        omega
      · exact e
      · exfalso
        have : (u - 48 + 1) * P ≤ (v - 48) * P := Int.mul_le_mul_of_nonneg_right (by omega) (by omega)
        rw [Int.add_mul] at this
        omega
    subst hvu
    have hrs : dval r = dval s := by omega
    rw [dval_inj n r s hl hm (fun x hx => h1 x (by simp [hx])) (fun x hx => h2 x (by simp [hx])) hrs]

/-- THE CANONICAL TEXT OF A NUMBER IS ONE. -/
theorem canon_one {l m : List Int} (hl : Canon l) (hm : Canon m) (h : dval l = dval m) : l = m := by
  have e : l.length = m.length := Nat.le_antisymm (canon_len hl hm h) (canon_len hm hl h.symm)
  exact dval_inj m.length l m e rfl hl.2.1 hm.2.1 h

/-- .. and of a number below 10^18 it has at most eighteen digits. -/
theorem canon_short {l : List Int} (hl : Canon l) (h : dval l < 1000000000000000000) : l.length ≤ 18 := by
  rcases Nat.lt_or_ge 18 l.length with hlt | hge
  · exfalso
    have h1 := canon_low hl (by omega)
    have h2 := pow_mono (show 18 ≤ l.length - 1 by omega)
    have e : (10 : Int) ^ 18 = 1000000000000000000 := by decide
    omega
  · exact hge

/-- A digit run: the digits from s on, up to e. -/
def Run (zs : List Int) (s e : Nat) : Prop := s ≤ e ∧ (∀ i, s ≤ i → i < e → ∃ v, zs[i]? = some v ∧ Dig v) ∧ (∀ v, zs[e]? = some v → ¬ Dig v)
theorem run_one {zs : List Int} {s e e' : Nat} (h : Run zs s e) (h' : Run zs s e') : e = e' := by
  rcases Nat.lt_trichotomy e e' with hlt | he | hgt
  · obtain ⟨v, h1, h2⟩ := h'.2.1 e h.1 hlt
    exact absurd h2 (h.2.2 v h1)
  · exact he
  · obtain ⟨v, h1, h2⟩ := h.2.1 e' h'.1 hgt
    exact absurd h2 (h'.2.2 v h1)
/-- The bytes from s to e. -/
def seg (zs : List Int) (s e : Nat) : List Int := (zs.drop s).take (e - s)
theorem seg_nil (zs : List Int) (s : Nat) : seg zs s s = [] := by simp [seg]
theorem seg_succ {zs : List Int} {s k : Nat} {v : Int} (h : s ≤ k) (hv : zs[k]? = some v) : seg zs s (k + 1) = seg zs s k ++ [v] := by
  unfold seg
  have hk : k < zs.length := (List.getElem?_eq_some_iff.1 hv).1
  rw [show k + 1 - s = (k - s) + 1 by omega, List.take_add_one, List.getElem?_drop, show s + (k - s) = k by omega, hv]
  rfl
theorem seg_len {zs : List Int} {s e : Nat} (h : e ≤ zs.length) : (seg zs s e).length = e - s := by
  simp [seg]; omega
theorem seg_mem {zs : List Int} {s e : Nat} (h : ∀ i, s ≤ i → i < e → ∃ v, zs[i]? = some v ∧ Dig v) : ∀ v ∈ seg zs s e, Dig v := by
  intro v hv
  obtain ⟨i, hi, rfl⟩ := List.getElem_of_mem hv
  simp only [seg, List.length_take, List.length_drop] at hi
  obtain ⟨u, h1, h2⟩ := h (s + i) (by omega) (by omega)
  have : (seg zs s e)[i] = u := by
    simp only [seg, List.getElem_take, List.getElem_drop]
    have := (List.getElem?_eq_some_iff.1 h1).2
    exact this
  rw [this]; exact h2
end Go.Proofs.Qxb6603291a
