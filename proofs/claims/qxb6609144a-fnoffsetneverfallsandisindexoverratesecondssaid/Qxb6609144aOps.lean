/-
  What the operations of Ieee.double give, as roundings of exact fractions: over the rungs of numbers that are not negative. No Go in sight. (seat b6609144a)
-/
import Derived.Test.Qxb6609144aRne
namespace Go.Proofs.Qxb6609144a
set_option linter.unusedVariables false
open Ieee

/-- The rung of infinity. -/
def INF : Nat := 2047 * 2 ^ 52
/-- How many places lie below one. -/
def E0 : Nat := 1074
theorem E0_eq : E0 = 1074 := rfl
/-- One, in units of the least place. -/
def U : Nat := 2 ^ E0

theorem U_pos : 0 < U := Nat.two_pow_pos E0
theorem infRung_eq : Ieee.double.infRung = INF := rfl
theorem binade_eq : Ieee.double.binade = 2 ^ 52 := rfl
theorem signWeight_eq : Ieee.double.signWeight = 2 ^ 63 := rfl
theorem leastPlace_eq : Ieee.double.leastPlace = -1074 := rfl

theorem near (neg : Bool) (mag : Nat) (place : Int) :
    ∃ r, Ieee.double.nearest neg mag place = Ieee.double.word neg (min r INF) ∧ IsRnd (mag * 2 ^ (place + 1074).toNat) (2 ^ (-(place + 1074)).toNat) r := by
  by_cases h0 : mag = 0
  · subst h0
    refine ⟨0, ?_, ?_⟩
    · simp [Format.nearest]
    · rw [Nat.zero_mul]; exact rnd_zero_mk _ (Nat.two_pow_pos _)
  · unfold Format.nearest
    rw [if_neg h0]
    dsimp only
    rw [infRung_eq, binade_eq, leastPlace_eq]
    have hfb : ((Ieee.double.fractionBits : Nat) : Int) = 52 := rfl
    rw [hfb]
    generalize hlast : max (place + (mag.log2 : Int) - 52) (-1074) = last
    rw [cut_even, Nat.shiftLeft_eq]
    have hl1 : last ≥ -1074 := by omega
    have hl2 : last ≥ place + (mag.log2 : Int) - 52 := by omega
    have hm1 : 2 ^ mag.log2 ≤ mag := Nat.log2_self_le h0
    have hm2 : mag < 2 ^ (mag.log2 + 1) := (Nat.log2_lt h0).1 (Nat.lt_succ_self _)
    have eL : (last - -1074).toNat = (last + 1074).toNat := by congr 1
    rw [eL]
    refine ⟨_, rfl, (last + 1074).toNat, ?_, ?_, ?_⟩
    · by_cases hz : last = -1074
      · left; omega
      · right
        have e : last = place + (mag.log2 : Int) - 52 := by omega
        rw [← Nat.pow_add]
        calc 2 ^ ((-(place + 1074)).toNat + ((last + 1074).toNat + 52)) = 2 ^ (mag.log2 + (place + 1074).toNat) := by congr 1; omega
          _ = 2 ^ mag.log2 * 2 ^ (place + 1074).toNat := Nat.pow_add _ _ _
          _ ≤ mag * 2 ^ (place + 1074).toNat := Nat.mul_le_mul_right _ hm1
    · rw [← Nat.pow_add]
      calc mag * 2 ^ (place + 1074).toNat < 2 ^ (mag.log2 + 1) * 2 ^ (place + 1074).toNat := Nat.mul_lt_mul_of_pos_right hm2 (Nat.two_pow_pos _)
        _ = 2 ^ (mag.log2 + 1 + (place + 1074).toNat) := (Nat.pow_add _ _ _).symm
        _ ≤ 2 ^ ((-(place + 1074)).toNat + ((last + 1074).toNat + 53)) := Nat.pow_le_pow_right (by omega) (by omega)
    · congr 1
      apply rne_eq (Nat.two_pow_pos _) (Nat.mul_pos (Nat.two_pow_pos _) (Nat.two_pow_pos _))
      rw [Nat.mul_assoc, Nat.mul_assoc, ← Nat.pow_add, ← Nat.pow_add, ← Nat.pow_add]
      congr 2
      omega

/-- What a rung below infinity stands for. -/
theorem read_rung {r : Nat} (hr : r < INF) : ∃ mag e : Nat, Ieee.double.read r = .number false mag (-1074 + (e : Int)) ∧ V r = mag * 2 ^ e ∧ mag < 2 ^ 53 ∧ (e = 0 ∨ 2 ^ 52 ≤ mag) := by
  have hs : r < 2 ^ 63 := by unfold INF at hr; omega
  unfold Format.read
  dsimp only
  rw [signWeight_eq, binade_eq, infRung_eq, leastPlace_eq]
  have e1 : (r / 2 ^ 63 % 2 == 1) = false := by rw [Nat.div_eq_of_lt hs]; rfl
  have e2 : r % 2 ^ 63 = r := Nat.mod_eq_of_lt hs
  rw [e1, e2]
  by_cases h : r < 2 ^ 52
  · rw [if_pos h]
    exact ⟨r, 0, by simp, by simp [V, h], by omega, .inl rfl⟩
  · rw [if_neg h, if_pos hr]
    refine ⟨2 ^ 52 + r % 2 ^ 52, r / 2 ^ 52 - 1, rfl, by simp only [V, if_neg h], by omega, .inr (by omega)⟩

/-- What a word with the sign stands for. -/
theorem read_neg {r : Nat} (hr : r < INF) : ∃ mag e : Nat, Ieee.double.read (Ieee.double.word true r) = .number true mag (-1074 + (e : Int)) ∧ V r = mag * 2 ^ e := by
  have hs : r < 2 ^ 63 := by unfold INF at hr; omega
  unfold Format.read Format.word
  dsimp only
  rw [signWeight_eq, binade_eq, infRung_eq, leastPlace_eq, if_pos rfl]
  have e1 : ((2 ^ 63 + r) / 2 ^ 63 % 2 == 1) = true := by
    have : (2 ^ 63 + r) / 2 ^ 63 = 1 := by omega
    rw [this]; rfl
  have e2 : (2 ^ 63 + r) % 2 ^ 63 = r := by omega
  rw [e1, e2]
  by_cases h : r < 2 ^ 52
  · rw [if_pos h]
    exact ⟨r, 0, by simp, by simp [V, h]⟩
  · rw [if_neg h, if_pos hr]
    refine ⟨2 ^ 52 + r % 2 ^ 52, r / 2 ^ 52 - 1, rfl, by simp only [V, if_neg h]⟩

theorem word_pos (r : Nat) : Ieee.double.word false r = r := rfl

theorem mul_rnd {x y : Nat} (hx : x < INF) (hy : y < INF) : ∃ r, Ieee.double.mul x y = some (min r INF) ∧ IsRnd (V x * V y) U r := by
  obtain ⟨m, e, rx, vx, -, -⟩ := read_rung hx
  obtain ⟨n, g, ry, vy, -, -⟩ := read_rung hy
  unfold Format.mul
  rw [rx, ry]
  simp only [Datum.product, Option.map_some, Format.write]
  obtain ⟨r, h1, h2⟩ := near (false ^^ false) (m * n) (-1074 + (e : Int) + (-1074 + (g : Int)))
  refine ⟨r, by rw [h1]; rfl, ?_⟩
  refine rnd_congr (Nat.two_pow_pos _) U_pos ?_ h2
  rw [vx, vy]
  unfold U
  have e3 : m * 2 ^ e * (n * 2 ^ g) = m * n * 2 ^ (e + g) := by rw [Nat.pow_add, Nat.mul_mul_mul_comm]
  have hE := E0_eq
  rw [e3]
  generalize m * n = k
  rw [Nat.mul_assoc, Nat.mul_assoc, ← Nat.pow_add, ← Nat.pow_add]
  congr 2
  omega

theorem add_rnd {x y : Nat} (hx : x < INF) (hy : y < INF) : ∃ r, Ieee.double.add x y = some (min r INF) ∧ IsRnd (V x + V y) 1 r := by
  obtain ⟨m, e, rx, vx, -, -⟩ := read_rung hx
  obtain ⟨n, g, ry, vy, -, -⟩ := read_rung hy
  unfold Format.add
  rw [rx, ry]
  simp only [Datum.sum, Option.map_some, Format.write, Ieee.signed, Bool.false_eq_true, if_false, Bool.and_self, Nat.shiftLeft_eq]
  have hb : min (-1074 + (e : Int)) (-1074 + (g : Int)) = -1074 + ((min e g : Nat) : Int) := by omega
  rw [hb]
  generalize hA : m * 2 ^ (-1074 + (e : Int) - (-1074 + ((min e g : Nat) : Int))).toNat = A
  generalize hC : n * 2 ^ (-1074 + (g : Int) - (-1074 + ((min e g : Nat) : Int))).toNat = C
  have hs : (if (A : Int) + (C : Int) = 0 then false else decide ((A : Int) + (C : Int) < 0)) = false := by
    split
    · rfl
    · simp; omega
  rw [hs]
  obtain ⟨r, h1, h2⟩ := near false ((A : Int) + (C : Int)).natAbs (-1074 + ((min e g : Nat) : Int))
  refine ⟨r, by rw [h1]; rfl, ?_⟩
  refine rnd_congr (Nat.two_pow_pos _) (by omega) ?_ h2
  have e1 : ((A : Int) + (C : Int)).natAbs = A + C := by omega
  have e2 : (-1074 + ((min e g : Nat) : Int) + 1074).toNat = min e g := by omega
  have e3 : (-(-1074 + ((min e g : Nat) : Int) + 1074)).toNat = 0 := by omega
  rw [e1, e2, e3, Nat.pow_zero, Nat.mul_one, Nat.mul_one, vx, vy, Nat.add_mul, ← hA, ← hC, Nat.mul_assoc, Nat.mul_assoc, ← Nat.pow_add, ← Nat.pow_add]
  congr 3 <;> omega

end Go.Proofs.Qxb6609144a
