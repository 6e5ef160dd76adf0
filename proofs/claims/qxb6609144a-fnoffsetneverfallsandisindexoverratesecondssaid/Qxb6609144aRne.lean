/-
  Rounding to the nearest whole number, ties to even, over fractions of naturals; the ladder of a format's magnitudes ('V'), counted in units of its least place. No Go in sight. (seat b6609144a)
-/
import Ieee.Arith
namespace Go.Proofs.Qxb6609144a
set_option linter.unusedVariables false

/-- N / D to the nearest whole number; between two, the even one. -/
def rne (N D : Nat) : Nat := N / D + (decide (D < 2 * (N % D)) || (decide (D = 2 * (N % D)) && decide ((N / D) % 2 = 1))).toNat

theorem toNat_le_one (b : Bool) : b.toNat ≤ 1 := by cases b <;> simp

theorem rne_err (N D : Nat) (hD : 0 < D) : 2 * (rne N D * D) ≤ 2 * N + D ∧ 2 * N ≤ 2 * (rne N D * D) + D := by
  have h1 : D * (N / D) + N % D = N := Nat.div_add_mod N D
  have h2 : N % D < D := Nat.mod_lt _ hD
  unfold rne
  generalize hb : (decide (D < 2 * (N % D)) || (decide (D = 2 * (N % D)) && decide ((N / D) % 2 = 1))) = b
  rw [Nat.add_mul, Nat.mul_comm (N / D) D]
  cases b
  · simp at hb
    simp
    omega
  · simp at hb
    simp
    omega

theorem rne_mono {N D N' D' : Nat} (hD : 0 < D) (hD' : 0 < D') (h : N * D' ≤ N' * D) : rne N D ≤ rne N' D' := by
  have hq : N / D ≤ N' / D' := by
    rw [← Nat.mul_div_mul_right N D hD', ← Nat.mul_div_mul_right N' D' hD, Nat.mul_comm D' D]
    exact Nat.div_le_div_right h
  unfold rne
  rcases Nat.lt_or_eq_of_le hq with hlt | heq
  · have := toNat_le_one (decide (D < 2 * (N % D)) || (decide (D = 2 * (N % D)) && decide ((N / D) % 2 = 1)))
    omega
  · rw [heq]
    apply Nat.add_le_add_left
    have e1 : D * (N' / D') + N % D = N := by rw [← heq]; exact Nat.div_add_mod N D
    have e2 : D' * (N' / D') + N' % D' = N' := Nat.div_add_mod N' D'
    have hr : (N % D) * D' ≤ (N' % D') * D := by
      generalize N' / D' = q at e1 e2
      generalize N % D = r at e1 ⊢
      generalize N' % D' = r' at e2 ⊢
      subst e1 e2
      rw [Nat.add_mul, Nat.add_mul] at h
      have e3 : D * q * D' = D' * q * D := by
        rw [Nat.mul_right_comm, Nat.mul_comm D D', Nat.mul_right_comm]
      rw [e3] at h
      exact Nat.le_of_add_le_add_left h
    have k1 : D < 2 * (N % D) → D' < 2 * (N' % D') := by
      intro h1
      apply Nat.lt_of_mul_lt_mul_left (a := D)
      calc D * D' < 2 * (N % D) * D' := Nat.mul_lt_mul_of_pos_right h1 hD'
        _ = 2 * ((N % D) * D') := Nat.mul_assoc _ _ _
        _ ≤ 2 * ((N' % D') * D) := Nat.mul_le_mul_left 2 hr
        _ = D * (2 * (N' % D')) := by rw [← Nat.mul_assoc, Nat.mul_comm]
    have k2 : D = 2 * (N % D) → D' ≤ 2 * (N' % D') := by
      intro h1
      apply Nat.le_of_mul_le_mul_left _ hD
      calc D * D' = 2 * (N % D) * D' := by rw [← h1]
        _ = 2 * ((N % D) * D') := Nat.mul_assoc _ _ _
        _ ≤ 2 * ((N' % D') * D) := Nat.mul_le_mul_left 2 hr
        _ = D * (2 * (N' % D')) := by rw [← Nat.mul_assoc, Nat.mul_comm]
    generalize hb : (decide (D < 2 * (N % D)) || (decide (D = 2 * (N % D)) && decide (N' / D' % 2 = 1))) = b
    cases b
    · simp
    · have : (decide (D' < 2 * (N' % D')) || (decide (D' = 2 * (N' % D')) && decide (N' / D' % 2 = 1))) = true := by
        simp at hb ⊢
        rcases hb with h1 | ⟨h1, h2⟩
        · exact .inl (k1 h1)
        · have := k2 h1
          omega
      rw [this]
      simp

theorem rne_eq {N D N' D' : Nat} (hD : 0 < D) (hD' : 0 < D') (h : N * D' = N' * D) : rne N D = rne N' D' :=
  Nat.le_antisymm (rne_mono hD hD' (Nat.le_of_eq h)) (rne_mono hD' hD (Nat.le_of_eq h.symm))

theorem rne_whole (c D : Nat) (hD : 0 < D) : rne (c * D) D = c := by
  unfold rne
  rw [Nat.mul_div_cancel _ hD, Nat.mul_mod_left]
  simp
  omega

/-- The model's own cut, ties to even. -/
theorem cut_even (neg : Bool) (n d : Nat) : Ieee.Toward.even.cut neg n d = rne n (2 ^ d) := by
  unfold Ieee.Toward.cut rne
  dsimp only
  rw [Nat.one_shiftLeft]
  have hn : n < 2 ^ (n.log2 + 1) := by
    by_cases h0 : n = 0
    · subst h0; simp
    · exact (Nat.log2_lt h0).1 (Nat.lt_succ_self _)
  have hn2 : 2 * n < 2 ^ (n.log2 + 2) := by rw [Nat.pow_succ]; omega
  by_cases hd : d ≤ n.log2 + 2
  · rw [Nat.min_eq_left hd]
    have : ∀ a b : Nat, (a == b) = decide (a = b) := fun a b => rfl
    simp only [this]
  · rw [Nat.min_eq_right (by omega)]
    have hle : 2 ^ (n.log2 + 2) ≤ 2 ^ d := Nat.pow_le_pow_right (by omega) (by omega)
    rw [Nat.div_eq_of_lt (show n < 2 ^ (n.log2 + 2) by omega), Nat.mod_eq_of_lt (show n < 2 ^ (n.log2 + 2) by omega), Nat.div_eq_of_lt (show n < 2 ^ d by omega), Nat.mod_eq_of_lt (show n < 2 ^ d by omega)]
    have a1 : ¬ 2 ^ (n.log2 + 2) < 2 * n := by omega
    have a3 : ¬ 2 ^ d < 2 * n := by omega
    simp [a1, a3]

/-- The model's own cut, towards zero. -/
theorem cut_zero (neg : Bool) (n d : Nat) : Ieee.Toward.zero.cut neg n d = n / 2 ^ d := by
  unfold Ieee.Toward.cut
  dsimp only
  rw [Nat.one_shiftLeft]
  have hn : n < 2 ^ (n.log2 + 1) := by
    by_cases h0 : n = 0
    · subst h0; simp
    · exact (Nat.log2_lt h0).1 (Nat.lt_succ_self _)
  have hn2 : 2 * n < 2 ^ (n.log2 + 2) := by rw [Nat.pow_succ]; omega
  by_cases hd : d ≤ n.log2 + 2
  · rw [Nat.min_eq_left hd]; simp
  · rw [Nat.min_eq_right (by omega)]
    have hle : 2 ^ (n.log2 + 2) ≤ 2 ^ d := Nat.pow_le_pow_right (by omega) (by omega)
    rw [Nat.div_eq_of_lt (show n < 2 ^ (n.log2 + 2) by omega), Nat.div_eq_of_lt (show n < 2 ^ d by omega)]
    simp

/-- The magnitude of a rung, in units of the least place. -/
def V (r : Nat) : Nat := if r < 2 ^ 52 then r else (2 ^ 52 + r % 2 ^ 52) * 2 ^ (r / 2 ^ 52 - 1)

theorem V_of (L k : Nat) (hk : k ≤ 2 ^ 53) (h : L = 0 ∨ 2 ^ 52 ≤ k) : V (L * 2 ^ 52 + k) = k * 2 ^ L := by
  unfold V
  by_cases h1 : k < 2 ^ 52
  · have hL : L = 0 := by rcases h with h | h <;> omega
    subst hL
    rw [if_pos (by omega)]
    simp
  · rw [if_neg (by omega)]
    by_cases h2 : k < 2 ^ 53
    · have e1 : (L * 2 ^ 52 + k) / 2 ^ 52 = L + 1 := by omega
      have e2 : (L * 2 ^ 52 + k) % 2 ^ 52 = k - 2 ^ 52 := by omega
      rw [e1, e2, Nat.add_sub_cancel, show 2 ^ 52 + (k - 2 ^ 52) = k by omega]
    · have hk' : k = 2 ^ 53 := by omega
      subst hk'
      have e1 : (L * 2 ^ 52 + 2 ^ 53) / 2 ^ 52 = L + 2 := by omega
      have e2 : (L * 2 ^ 52 + 2 ^ 53) % 2 ^ 52 = 0 := by omega
      rw [e1, e2]
      show (2 ^ 52 + 0) * 2 ^ (L + 1) = 2 ^ 53 * 2 ^ L
      have e3 : 2 ^ (L + 1) = 2 ^ L * 2 := Nat.pow_succ _ _
      rw [e3]
      omega

theorem V_succ (r : Nat) : V r < V (r + 1) := by
  by_cases h : r < 2 ^ 52
  · have e1 := V_of 0 r (by omega) (.inl rfl)
    have e2 := V_of 0 (r + 1) (by omega) (.inl rfl)
    simp at e1 e2
    omega
  · have e1 := V_of (r / 2 ^ 52 - 1) (2 ^ 52 + r % 2 ^ 52) (by omega) (.inr (by omega))
    have e2 := V_of (r / 2 ^ 52 - 1) (2 ^ 52 + r % 2 ^ 52 + 1) (by omega) (.inr (by omega))
    rw [show (r / 2 ^ 52 - 1) * 2 ^ 52 + (2 ^ 52 + r % 2 ^ 52) = r by omega] at e1
    rw [show (r / 2 ^ 52 - 1) * 2 ^ 52 + (2 ^ 52 + r % 2 ^ 52 + 1) = r + 1 by omega] at e2
    rw [e1, e2, Nat.add_mul (2 ^ 52 + r % 2 ^ 52) 1]
    have : 0 < 2 ^ (r / 2 ^ 52 - 1) := Nat.two_pow_pos _
    omega

theorem V_mono {r s : Nat} (h : r ≤ s) : V r ≤ V s := by
  induction s with
  | zero => rw [Nat.le_zero.1 h]; exact Nat.le_refl _
  | succ s ih =>
    by_cases h' : r ≤ s
    · exact Nat.le_trans (ih h') (Nat.le_of_lt (V_succ s))
    · rw [show r = s + 1 by omega]; exact Nat.le_refl _

theorem V_lt {r s : Nat} : V r < V s ↔ r < s := by
  constructor
  · intro h
    by_cases h' : r < s
    · exact h'
    · have := V_mono (show s ≤ r by omega); omega
  · intro h
    exact Nat.lt_of_lt_of_le (V_succ r) (V_mono h)

theorem V_zero : V 0 = 0 := by simp [V]

/-- r is the rung of the number A / B (in units of the least place), rounded to the nearest, ties to even; were there no end of rungs. -/
def IsRnd (A B r : Nat) : Prop := ∃ L, (L = 0 ∨ B * 2 ^ (L + 52) ≤ A) ∧ A < B * 2 ^ (L + 53) ∧ r = L * 2 ^ 52 + rne A (B * 2 ^ L)

theorem kept_bounds {A B L : Nat} (hB : 0 < B) (h1 : L = 0 ∨ B * 2 ^ (L + 52) ≤ A) (h2 : A < B * 2 ^ (L + 53)) :
    rne A (B * 2 ^ L) ≤ 2 ^ 53 ∧ (L = 0 ∨ 2 ^ 52 ≤ rne A (B * 2 ^ L)) := by
  have hD : 0 < B * 2 ^ L := Nat.mul_pos hB (Nat.two_pow_pos _)
  constructor
  · rw [← rne_whole (2 ^ 53) (B * 2 ^ L) hD]
    apply rne_mono hD hD
    apply Nat.mul_le_mul_right
    rw [Nat.pow_add, ← Nat.mul_assoc, Nat.mul_comm] at h2
    exact Nat.le_of_lt h2
  · rcases h1 with h1 | h1
    · exact .inl h1
    · right
      conv => lhs; rw [← rne_whole (2 ^ 52) (B * 2 ^ L) hD]
      apply rne_mono hD hD
      apply Nat.mul_le_mul_right
      rw [Nat.pow_add, ← Nat.mul_assoc, Nat.mul_comm] at h1
      exact h1

theorem rnd_V {A B r : Nat} (hB : 0 < B) (h : IsRnd A B r) :
    ∃ L, (L = 0 ∨ B * 2 ^ (L + 52) ≤ A) ∧ 2 * (V r * B) ≤ 2 * A + B * 2 ^ L ∧ 2 * A ≤ 2 * (V r * B) + B * 2 ^ L := by
  obtain ⟨L, h1, h2, rfl⟩ := h
  have hk := kept_bounds hB h1 h2
  have hD : 0 < B * 2 ^ L := Nat.mul_pos hB (Nat.two_pow_pos _)
  have he := rne_err A (B * 2 ^ L) hD
  refine ⟨L, h1, ?_⟩
  rw [V_of L _ hk.1 hk.2]
  have e : rne A (B * 2 ^ L) * 2 ^ L * B = rne A (B * 2 ^ L) * (B * 2 ^ L) := by rw [Nat.mul_assoc, Nat.mul_comm (2 ^ L) B]
  rw [e]
  exact he

/-- The error of a number that is no subnormal one. -/
theorem rnd_err {A B r : Nat} (hB : 0 < B) (h : IsRnd A B r) (hn : 2 ^ 52 * B ≤ A) :
    2 ^ 53 * (V r * B) ≤ (2 ^ 53 + 1) * A ∧ (2 ^ 53 - 1) * A ≤ 2 ^ 53 * (V r * B) := by
  obtain ⟨L, h1, h2, h3⟩ := rnd_V hB h
  have hx : 2 ^ 52 * (B * 2 ^ L) ≤ A := by
    rcases h1 with h1 | h1
    · subst h1; simpa using hn
    · rwa [Nat.pow_add, ← Nat.mul_assoc, Nat.mul_comm] at h1
  generalize B * 2 ^ L = E at *
  generalize V r * B = X at *
  omega

theorem rnd_zero {B r : Nat} (hB : 0 < B) (h : IsRnd 0 B r) : r = 0 := by
  obtain ⟨L, h1, h2, rfl⟩ := h
  have hL : L = 0 := by
    rcases h1 with h1 | h1
    · exact h1
    · have := Nat.mul_pos hB (Nat.two_pow_pos (L + 52)); omega
  subst hL
  simp [rne]

theorem rnd_zero_mk (B : Nat) (hB : 0 < B) : IsRnd 0 B 0 := by
  refine ⟨0, .inl rfl, Nat.mul_pos hB (Nat.two_pow_pos _), ?_⟩
  simp [rne]

/-- A whole number of units. -/
theorem rnd_err_one {A r : Nat} (h : IsRnd A 1 r) : 2 ^ 53 * V r ≤ (2 ^ 53 + 1) * A ∧ (2 ^ 53 - 1) * A ≤ 2 ^ 53 * V r := by
  by_cases hn : 2 ^ 52 ≤ A
  · have := rnd_err (B := 1) (by omega) h (by omega)
    simpa using this
  · obtain ⟨L, h1, h2, rfl⟩ := h
    have hL : L = 0 := by
      rcases h1 with h1 | h1
      · exact h1
      · have : 2 ^ 52 ≤ 2 ^ (L + 52) := Nat.pow_le_pow_right (by omega) (by omega)
        omega
    subst hL
    have e : rne A (1 * 2 ^ 0) = A := by simpa using rne_whole A 1 (by omega)
    rw [e]
    have := V_of 0 A (by omega) (.inl rfl)
    rw [this]
    omega

theorem rnd_mono {A B r A' B' r' : Nat} (hB : 0 < B) (hB' : 0 < B') (h : IsRnd A B r) (h' : IsRnd A' B' r') (hle : A * B' ≤ A' * B) : r ≤ r' := by
  obtain ⟨L, h1, h2, rfl⟩ := h
  obtain ⟨M, k1, k2, rfl⟩ := h'
  have b1 := kept_bounds hB h1 h2
  have b2 := kept_bounds hB' k1 k2
  have hD : 0 < B * 2 ^ L := Nat.mul_pos hB (Nat.two_pow_pos _)
  have hD' : 0 < B' * 2 ^ M := Nat.mul_pos hB' (Nat.two_pow_pos _)
  rcases Nat.lt_trichotomy L M with hlt | heq | hgt
  · rcases b2.2 with h0 | h0
    · omega
    · omega
  · subst heq
    apply Nat.add_le_add_left
    apply rne_mono hD hD'
    rw [← Nat.mul_assoc, ← Nat.mul_assoc]
    exact Nat.mul_le_mul_right _ hle
  · exfalso
    rcases h1 with h1 | h1
    · omega
    · have e1 : B * B' * 2 ^ (L + 52) ≤ A * B' := by
        rw [Nat.mul_right_comm]; exact Nat.mul_le_mul_right _ h1
      have e2 : A' * B < B * B' * 2 ^ (M + 53) := by
        rw [Nat.mul_assoc, Nat.mul_comm B]; exact Nat.mul_lt_mul_of_pos_right k2 hB
      have e3 : B * B' * 2 ^ (M + 53) ≤ B * B' * 2 ^ (L + 52) := Nat.mul_le_mul_left _ (Nat.pow_le_pow_right (by omega) (by omega))
      omega

theorem rnd_congr {A B r A' B' : Nat} (hB : 0 < B) (hB' : 0 < B') (he : A * B' = A' * B) (h : IsRnd A B r) : IsRnd A' B' r := by
  obtain ⟨L, h1, h2, rfl⟩ := h
  have hD : 0 < B * 2 ^ L := Nat.mul_pos hB (Nat.two_pow_pos _)
  have hD' : 0 < B' * 2 ^ L := Nat.mul_pos hB' (Nat.two_pow_pos _)
  refine ⟨L, ?_, ?_, ?_⟩
  · rcases h1 with h1 | h1
    · exact .inl h1
    · right
      apply Nat.le_of_mul_le_mul_right _ hB
      rw [← he, Nat.mul_right_comm, Nat.mul_comm B' B, Nat.mul_right_comm]
      exact Nat.mul_le_mul_right _ h1
  · apply Nat.lt_of_mul_lt_mul_right (a := B)
    rw [← he, Nat.mul_right_comm, Nat.mul_comm B' B, Nat.mul_right_comm]
    exact Nat.mul_lt_mul_of_pos_right h2 hB'
  · congr 1
    apply rne_eq hD hD'
    rw [← Nat.mul_assoc, ← Nat.mul_assoc, he]

end Go.Proofs.Qxb6609144a
