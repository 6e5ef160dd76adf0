/-
  The rate's gate (seat b6609144a): which words pass 'rate*1024 >= 1 && rate <= 1e300'. No Go in sight.
-/
import Derived.Test.Qxb6609144aLaw2
namespace Go.Proofs.Qxb6609144a
set_option linter.unusedVariables false
open Ieee

theorem read_inf : Ieee.double.read INF = .infinity false := by kernel_rfl
theorem read_ninf : Ieee.double.read (2 ^ 63 + INF) = .infinity true := by kernel_rfl

/-- A word is a number that is not negative, an infinity, a NaN, or a number with the sign. -/
theorem word_cases (x : Nat) (hx : x < 2 ^ 64) : x < INF ∨ x = INF ∨ (∃ s t, Ieee.double.read x = .nan s t) ∨ (∃ r, r < INF ∧ x = Ieee.double.word true r) ∨ x = 2 ^ 63 + INF := by
  have hINF : INF = 9218868437227405312 := by kernel_rfl
  by_cases h1 : x < INF
  · exact .inl h1
  by_cases h2 : x = INF
  · exact .inr (.inl h2)
  by_cases h3 : x < 2 ^ 63
  · refine .inr (.inr (.inl ⟨false, x - INF, ?_⟩))
    unfold Format.read
    dsimp only
    rw [signWeight_eq, binade_eq, infRung_eq, leastPlace_eq]
    have e1 : (x / 2 ^ 63 % 2 == 1) = false := by rw [Nat.div_eq_of_lt h3]; rfl
    have e2 : x % 2 ^ 63 = x := Nat.mod_eq_of_lt h3
    rw [e1, e2, if_neg (by omega), if_neg h1, if_neg h2]
  by_cases h4 : x - 2 ^ 63 < INF
  · refine .inr (.inr (.inr (.inl ⟨x - 2 ^ 63, h4, ?_⟩)))
    show x = 2 ^ 63 + (x - 2 ^ 63)
    omega
  by_cases h5 : x = 2 ^ 63 + INF
  · exact .inr (.inr (.inr (.inr h5)))
  · refine .inr (.inr (.inl ⟨true, x - 2 ^ 63 - INF, ?_⟩))
    unfold Format.read
    dsimp only
    rw [signWeight_eq, binade_eq, infRung_eq, leastPlace_eq]
    have e1 : (x / 2 ^ 63 % 2 == 1) = true := by
      have : x / 2 ^ 63 = 1 := by omega
      rw [this]; rfl
    have e2 : x % 2 ^ 63 = x - 2 ^ 63 := by omega
    rw [e1, e2, if_neg (by omega), if_neg h4, if_neg (by omega)]

/-- Not above 1e300, as the model compares. -/
def le300 (x : Nat) : Bool := Ieee.double.order x wM == some .lt || Ieee.double.order x wM == some .eq
/-- At least one, as the model compares. -/
def ge1 (x : Nat) : Bool := Ieee.double.order x w1 == some .gt || Ieee.double.order x w1 == some .eq

theorem read_M : ∃ n g : Nat, Ieee.double.read wM = .number false n (-1074 + (g : Int)) := by
  obtain ⟨n, g, h, _⟩ := read_rung fin_M
  exact ⟨n, g, h⟩

/-- What is not a NaN has its product. -/
theorem mul_some {x : Nat} (hx : x < 2 ^ 64) (h : le300 x = true) : ∃ m, Ieee.double.mul x wK = some m := by
  obtain ⟨n, g, rk, vk, -, -⟩ := read_rung fin_K
  have hn : n ≠ 0 := by
    intro h0
    rw [V_K, h0, Nat.zero_mul] at vk
    have := U_pos
    omega
  unfold Format.mul
  rw [rk]
  rcases hd : Ieee.double.read x with ⟨s, m, i⟩ | s | ⟨s, t⟩
  · exact ⟨_, rfl⟩
  · simp [Datum.product, hn]
  · exfalso
    unfold le300 Format.order at h
    rw [hd] at h
    simp [Datum.order] at h

def K0 : Nat := 2029
theorem K0_eq : K0 = 2029 := rfl
theorem V_M3 : V wM * 1024 ≤ 2 ^ (K0 + 52) := Nat.le_of_ble_eq_true (by kernel_rfl)

theorem gate {x m : Nat} (hx : x < 2 ^ 64) (h : le300 x = true) (hm : Ieee.double.mul x wK = some m) (h1 : ge1 m = true) : x < INF ∧ U ≤ 2048 * V x ∧ V x ≤ V wM := by
  have hU := U_pos
  obtain ⟨nM, gM, rM⟩ := read_M
  rcases word_cases x hx with hc | hc | ⟨s, t, hc⟩ | ⟨r, hr, hc⟩ | hc
  · refine ⟨hc, ?_⟩
    have hM : V x ≤ V wM := by
      unfold le300 at h
      rw [order_pos hc fin_M] at h
      by_cases a : V x < V wM
      · omega
      · rw [if_neg a] at h
        by_cases b : V x = V wM
        · omega
        · rw [if_neg b] at h
          simp at h
    refine ⟨?_, hM⟩
    obtain ⟨r, e, hr⟩ := mul_rnd hc fin_K
    rw [V_K] at hr
    have hr2 : IsRnd (1024 * V x) 1 r := rnd_congr hU (by omega) (by rw [Nat.mul_one, ← Nat.mul_assoc, Nat.mul_comm (V x)]) hr
    have hfin : r < INF := by
      have := rnd_lt (K := K0) (by omega) hr2 (by
        rw [Nat.one_mul]
        refine Nat.le_trans ?_ V_M3
        rw [Nat.mul_comm]
        exact Nat.mul_le_mul_right _ hM)
      rw [K0_eq] at this
      unfold INF
      omega
    rw [min_fin hfin, hm] at e
    have em : m = r := by simpa using e
    subst em
    have ve := rnd_err_one hr2
    unfold ge1 at h1
    rw [order_pos hfin fin_1, V_1] at h1
    by_cases a : V m < U
    · rw [if_pos a] at h1
      simp at h1
    · omega
  · exfalso
    unfold le300 Format.order at h
    rw [hc, read_inf, rM] at h
    simp [Datum.order] at h
  · exfalso
    unfold le300 Format.order at h
    rw [hc] at h
    simp [Datum.order] at h
  · exfalso
    obtain ⟨mx, ex, rx, vx⟩ := read_neg hr
    obtain ⟨n, g, rk, vk, -, -⟩ := read_rung fin_K
    rw [hc] at hm
    unfold Format.mul at hm
    rw [rx, rk] at hm
    simp only [Datum.product, Option.map_some, Format.write, Option.some.injEq] at hm
    obtain ⟨q, hq, -⟩ := near (true ^^ false) (mx * n) (-1074 + (ex : Int) + (-1074 + (g : Int)))
    rw [hq] at hm
    subst hm
    unfold ge1 at h1
    by_cases hf : q < INF
    · rw [min_fin hf] at h1
      have := order_neg hf fin_1 (.inr (by rw [V_1]; exact hU))
      rw [show Ieee.double.word (true ^^ false) q = Ieee.double.word true q from rfl, this] at h1
      simp at h1
    · rw [Nat.min_eq_right (by omega)] at h1
      rw [show Ieee.double.word (true ^^ false) INF = 2 ^ 63 + INF from rfl] at h1
      obtain ⟨n1, g1, r1, -⟩ := read_rung fin_1
      unfold Format.order at h1
      rw [read_ninf, r1] at h1
      simp [Datum.order] at h1
  · exfalso
    obtain ⟨n, g, rk, vk, -, -⟩ := read_rung fin_K
    have hn : n ≠ 0 := by
      intro h0
      rw [V_K, h0, Nat.zero_mul] at vk
      omega
    rw [hc] at hm
    unfold Format.mul at hm
    rw [read_ninf, rk] at hm
    simp only [Datum.product, if_neg hn, Option.map_some, Format.write, Option.some.injEq] at hm
    rw [infRung_eq, show Ieee.double.word (true ^^ false) INF = 2 ^ 63 + INF from rfl] at hm
    subst hm
    obtain ⟨n1, g1, r1, -⟩ := read_rung fin_1
    unfold ge1 Format.order at h1
    rw [read_ninf, r1] at h1
    simp [Datum.order] at h1

theorem neg_word (a : Nat) (ha : a < 2 ^ 63) : (2 ^ 63 + a) ^^^ 2 ^ 63 = a := by
  have e : 2 ^ 63 + a = 2 ^ 63 ^^^ a := by
    apply Nat.eq_of_testBit_eq
    intro j
    rw [Nat.testBit_xor, Nat.testBit_two_pow]
    by_cases hj : j = 63
    · subst hj
      rw [Nat.testBit_two_pow_add_eq, Nat.testBit_lt_two_pow ha]
      simp
    · by_cases hj2 : j < 63
      · have hf : decide (63 = j) = false := by rw [decide_eq_false_iff_not]; omega
        rw [Nat.testBit_two_pow_add_gt hj2, hf, Bool.false_xor]
      · have h1 : 2 ^ 63 + a < 2 ^ j := Nat.lt_of_lt_of_le (by omega) (Nat.pow_le_pow_right (n := 2) (by omega) (show 64 ≤ j by omega))
        have h2 : a < 2 ^ j := by omega
        have hf : decide (63 = j) = false := by rw [decide_eq_false_iff_not]; omega
        rw [Nat.testBit_lt_two_pow h1, Nat.testBit_lt_two_pow h2, hf]
        rfl
  rw [e, Nat.xor_comm (2 ^ 63) a, Nat.xor_assoc, Nat.xor_self, Nat.xor_zero]

end Go.Proofs.Qxb6609144a
