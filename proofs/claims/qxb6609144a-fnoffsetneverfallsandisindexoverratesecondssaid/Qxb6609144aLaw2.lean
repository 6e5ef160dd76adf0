/-
  The plain law of the seat b6609144a, its second half. No Go in sight.
-/
import Derived.Test.Qxb6609144aLaw
namespace Go.Proofs.Qxb6609144a
set_option linter.unusedVariables false
open Ieee

theorem wanted {i rate : Nat} (D : Road i rate) (hi : i < 2 ^ 63) (hr : rate < INF) (h1 : U ≤ 2048 * V rate) (h2 : V rate ≤ V wM) :
    ∃ p want, Ieee.double.mul D.fi wG = some p ∧ Ieee.double.div p rate = some want ∧ p < INF ∧ want < INF ∧
      2 ^ 50 * V D.o ≤ (2 ^ 50 + 1) * V want ∧ (2 ^ 50 - 1) * V want ≤ 2 ^ 50 * V D.o ∧
      (2 ^ 51 - 1) * (1000000000 * (V D.fi * U)) ≤ 2 ^ 51 * (V want * V rate) := by
  have hU := U_pos
  have hB := U_big
  have hR : 0 < V rate := by omega
  have hiU : i * U ≤ 2 ^ 63 * U := Nat.mul_le_mul_right _ (Nat.le_of_lt hi)
  have v1 := D.vfi
  have z1 := D.zfi
  have v2 := D.vd
  have v3 := D.vo
  obtain ⟨p, e1, r1⟩ := mul_rnd D.ffi fin_G
  rw [V_G] at r1
  have eg : V D.fi * (1000000000 * U) = 1000000000 * (V D.fi * U) := Nat.mul_left_comm _ _ _
  rw [eg] at r1
  have hFle : V D.fi ≤ 2 ^ 64 * U := by omega
  have hFU : V D.fi * U ≤ 2 ^ 64 * (U * U) := by rw [← Nat.mul_assoc]; exact Nat.mul_le_mul_right _ hFle
  have eT : U * (383123885216472214589586756787577295904684780545900544 * U) = 383123885216472214589586756787577295904684780545900544 * (U * U) := Nat.mul_left_comm _ _ _
  have f1 : p < INF := rnd_fin hU r1 (by rw [eT]; omega)
  rw [min_fin f1] at e1
  have hF1 : V D.fi = 0 ∨ U * U ≤ 2 * (V D.fi * U) := by
    rcases z1 with h | h
    · exact .inl h
    · right; rw [← Nat.mul_assoc]; exact Nat.mul_le_mul_right _ h
  have hUU : 1267650600228229401496703205376 * U ≤ U * U := Nat.mul_le_mul_right _ hB
  have n1 : 1000000000 * (V D.fi * U) = 0 ∨ 2 ^ 52 * U ≤ 1000000000 * (V D.fi * U) := by
    rcases hF1 with h | h
    · left; rw [h, Nat.zero_mul]
    · right; omega
  have w1 := rnd_err0 hU r1 n1
  obtain ⟨want, e2, r2⟩ := div_rnd f1 hr hR
  have hRU : 1152921504606846976 * V rate ≤ U * U := Nat.le_trans (Nat.mul_le_mul_left _ h2) V_M
  have hUR : U * U ≤ 2048 * (V rate * U) := by rw [← Nat.mul_assoc]; exact Nat.mul_le_mul_right _ h1
  have eR : V rate * (383123885216472214589586756787577295904684780545900544 * U) = 383123885216472214589586756787577295904684780545900544 * (V rate * U) := Nat.mul_left_comm _ _ _
  have f2 : want < INF := rnd_fin hR r2 (by rw [eR]; omega)
  rw [min_fin f2] at e2
  have n2 : V p * U = 0 ∨ 2 ^ 52 * V rate ≤ V p * U := by
    rcases hF1 with h | h
    · left
      have : V D.fi * U = 0 := by rw [h, Nat.zero_mul]
      omega
    · right; omega
  have w2 := rnd_err0 hR r2 n2
  refine ⟨p, want, e1, e2, f1, f2, ?_⟩
  have v3a : 2 ^ 53 * (V D.o * V rate) ≤ (2 ^ 53 + 1) * (1000000000 * (V D.d * V rate)) := by
    have := Nat.mul_le_mul_right (V rate) v3.1
    have a : 2 ^ 53 * V D.o * V rate = 2 ^ 53 * (V D.o * V rate) := Nat.mul_assoc _ _ _
    have b : (2 ^ 53 + 1) * (1000000000 * V D.d) * V rate = (2 ^ 53 + 1) * (1000000000 * (V D.d * V rate)) := by rw [Nat.mul_assoc, Nat.mul_assoc]
    rw [a, b] at this
    exact this
  have v3b : (2 ^ 53 - 1) * (1000000000 * (V D.d * V rate)) ≤ 2 ^ 53 * (V D.o * V rate) := by
    have := Nat.mul_le_mul_right (V rate) v3.2
    have a : 2 ^ 53 * V D.o * V rate = 2 ^ 53 * (V D.o * V rate) := Nat.mul_assoc _ _ _
    have b : (2 ^ 53 - 1) * (1000000000 * V D.d) * V rate = (2 ^ 53 - 1) * (1000000000 * (V D.d * V rate)) := by rw [Nat.mul_assoc, Nat.mul_assoc]
    rw [a, b] at this
    exact this
  refine ⟨?_, ?_, ?_⟩
  · apply Nat.le_of_mul_le_mul_right (c := V rate) _ hR
    rw [Nat.mul_assoc, Nat.mul_assoc]
    clear hFU hF1 hUU n1 n2 hRU hUR r1 r2 eT eR
    generalize V D.o * V rate = OR at *
    generalize V D.d * V rate = DR at *
    generalize V D.fi * U = FU at *
    generalize V p * U = PU at *
    generalize V want * V rate = WR at *
    omega
  · apply Nat.le_of_mul_le_mul_right (c := V rate) _ hR
    rw [Nat.mul_assoc, Nat.mul_assoc]
    clear hFU hF1 hUU n1 n2 hRU hUR r1 r2 eT eR
    generalize V D.o * V rate = OR at *
    generalize V D.d * V rate = DR at *
    generalize V D.fi * U = FU at *
    generalize V p * U = PU at *
    generalize V want * V rate = WR at *
    omega
  · clear hFU hF1 hUU n1 n2 hRU hUR r1 r2 eT eR
    generalize V D.o * V rate = OR at *
    generalize V D.d * V rate = DR at *
    generalize V D.fi * U = FU at *
    generalize V p * U = PU at *
    generalize V want * V rate = WR at *
    omega

/-- A later entry is never due before an earlier one. -/
theorem never_falls {i rate : Nat} (D : Road i rate) (D' : Road (i + 1) rate) (hR : 0 < V rate) : V D.o ≤ V D'.o := by
  have hU := U_pos
  have a1 : D.fi ≤ D'.fi := rnd_mono (by omega) (by omega) D.rfi D'.rfi (Nat.mul_le_mul_right _ (Nat.mul_le_mul_right _ (by omega)))
  have a2 : D.d ≤ D'.d := rnd_mono hR hR D.rd D'.rd (Nat.mul_le_mul_right _ (Nat.mul_le_mul_right _ (V_mono a1)))
  have a3 : D.o ≤ D'.o := rnd_mono hU hU D.ro D'.ro (Nat.mul_le_mul_right _ (Nat.mul_le_mul_right _ (V_mono a2)))
  exact V_mono a3

/-- The later entry's offset fits an int64. -/
theorem fits {i rate : Nat} (D : Road i rate) (D' : Road (i + 1) rate) (hi : i + 1 < 2 ^ 63) (h1 : U ≤ 2048 * V rate) {want : Nat}
    (hw : (2 ^ 51 - 1) * (1000000000 * (V D.fi * U)) ≤ 2 ^ 51 * (V want * V rate)) (h8 : V want ≤ 8000000000000000000 * U) : V D'.o < 9223372036854775808 * U := by
  have hU := U_pos
  have hR : 0 < V rate := by omega
  have hiU : i * U ≤ 2 ^ 63 * U := Nat.mul_le_mul_right _ (by omega)
  have v1 := D.vfi
  have v1' := D'.vfi
  have e1 : (i + 1) * U = i * U + U := by rw [Nat.add_mul, Nat.one_mul]
  rw [e1] at v1'
  have hF : V D'.fi ≤ V D.fi + 4096 * U := by omega
  have hFU : V D'.fi * U ≤ V D.fi * U + 4096 * (U * U) := by
    have := Nat.mul_le_mul_right U hF
    rwa [Nat.add_mul, Nat.mul_assoc] at this
  have hUR : U * U ≤ 2048 * (V rate * U) := by rw [← Nat.mul_assoc]; exact Nat.mul_le_mul_right _ h1
  have hWR : V want * V rate ≤ 8000000000000000000 * (V rate * U) := by
    have := Nat.mul_le_mul_right (V rate) h8
    rwa [Nat.mul_assoc, Nat.mul_comm U] at this
  have v2 := D'.vd.1
  have v3a : 2 ^ 53 * (V D'.o * V rate) ≤ (2 ^ 53 + 1) * (1000000000 * (V D'.d * V rate)) := by
    have := Nat.mul_le_mul_right (V rate) D'.vo.1
    have a : 2 ^ 53 * V D'.o * V rate = 2 ^ 53 * (V D'.o * V rate) := Nat.mul_assoc _ _ _
    have b : (2 ^ 53 + 1) * (1000000000 * V D'.d) * V rate = (2 ^ 53 + 1) * (1000000000 * (V D'.d * V rate)) := by rw [Nat.mul_assoc, Nat.mul_assoc]
    rw [a, b] at this
    exact this
  have hpos : 0 < V rate * U := Nat.mul_pos hR hU
  apply Nat.lt_of_mul_lt_mul_right (a := V rate)
  rw [Nat.mul_assoc, Nat.mul_comm U]
  omega

/-- What the law compares: the distance, rounded, is not above the bound, rounded. -/
theorem close {o want : Nat} (ho : o < INF) (hwf : want < INF) (h1 : 2 ^ 50 * V o ≤ (2 ^ 50 + 1) * V want) (h2 : (2 ^ 50 - 1) * V want ≤ 2 ^ 50 * V o) (h8 : V want ≤ 8000000000000000000 * U) :
    ∃ fg a c b : Nat, Ieee.double.nearest false (V o / U) 0 = fg ∧ fg < INF ∧ Ieee.double.sub fg want = some (Ieee.double.word (decide (V fg < V want)) a) ∧ a < INF ∧
      (V fg < V want → 0 < V a) ∧ Ieee.double.div want wD = some c ∧ c < INF ∧ Ieee.double.add c w2 = some b ∧ b < INF ∧ V a ≤ V b := by
  have hU := U_pos
  have hB := U_big
  have hdm := Nat.div_add_mod (V o) U
  have hml := Nat.mod_lt (V o) hU
  obtain ⟨fg, e1, r1⟩ := ofInt_rnd (V o / U)
  have egu : V o / U * U = U * (V o / U) := Nat.mul_comm _ _
  rw [egu] at r1
  have f1 : fg < INF := rnd_fin (by omega) r1 (by omega)
  rw [min_fin f1] at e1
  have v1 := rnd_err_one r1
  obtain ⟨a, r2, e2⟩ := sub_rnd f1 hwf
  have v2 := rnd_err_one r2
  have f2 : a < INF := rnd_fin (by omega) r2 (by split <;> omega)
  rw [min_fin f2] at e2
  have hD : 0 < V wD := by rw [V_D]; omega
  obtain ⟨c, e3, r3⟩ := div_rnd hwf fin_D hD
  have f3 : c < INF := rnd_fin hD r3 (by
    rw [V_D, Nat.mul_assoc]
    have : V want * U ≤ 8000000000000000000 * U * U := Nat.mul_le_mul_right _ h8
    rw [Nat.mul_assoc] at this
    have e : U * (383123885216472214589586756787577295904684780545900544 * U) = 383123885216472214589586756787577295904684780545900544 * (U * U) := Nat.mul_left_comm _ _ _
    rw [e]
    omega)
  rw [min_fin f3] at e3
  obtain ⟨L, k1, k2, k3⟩ := rnd_V hD r3
  -- the quotient's error: half a place, or half a unit of the last digit
  have hc : (2 ^ 53 - 1) * V want ≤ 2 ^ 53 * (562949953421312 * V c) + 2 ^ 102 := by
    rw [V_D] at k1 k3
    have e : V c * (562949953421312 * U) = 562949953421312 * V c * U := by rw [← Nat.mul_assoc, Nat.mul_comm (V c)]
    rw [e] at k3
    apply Nat.le_of_mul_le_mul_right (c := U) _ hU
    rw [Nat.add_mul, Nat.mul_assoc, Nat.mul_assoc]
    rcases k1 with k1 | k1
    · subst k1
      rw [Nat.pow_zero, Nat.mul_one] at k3
      omega
    · have e' : 562949953421312 * U * 2 ^ (L + 52) = 2 ^ 52 * (562949953421312 * U * 2 ^ L) := by rw [Nat.pow_add, ← Nat.mul_assoc, Nat.mul_comm]
      rw [e'] at k1
      generalize 562949953421312 * U * 2 ^ L = X at *
      omega
  obtain ⟨b, e4, r4⟩ := add_rnd f3 fin_2
  have v4 := rnd_err_one r4
  rw [V_2] at v4 r4
  have hcu : V c ≤ 2 ^ 64 * U := by
    have hx := k2
    rw [V_D] at hx k1
    have e : V c * (562949953421312 * U) = 562949953421312 * V c * U := by rw [← Nat.mul_assoc, Nat.mul_comm (V c)]
    rw [e] at hx
    have h9 : V want * U ≤ 8000000000000000000 * U * U := Nat.mul_le_mul_right _ h8
    have hUU : 1 * U ≤ U * U := Nat.mul_le_mul_right _ hU
    apply Nat.le_of_mul_le_mul_right (c := U) _ hU
    have g1 : 562949953421312 * V c * U = 562949953421312 * (V c * U) := Nat.mul_assoc _ _ _
    have g2 : 8000000000000000000 * U * U = 8000000000000000000 * (U * U) := Nat.mul_assoc _ _ _
    have g3 : 2 ^ 64 * U * U = 2 ^ 64 * (U * U) := Nat.mul_assoc _ _ _
    rw [g1] at hx
    rw [g2] at h9
    rw [g3]
    rcases k1 with k1 | k1
    · subst k1
      rw [Nat.pow_zero, Nat.mul_one] at hx
      omega
    · have e' : 562949953421312 * U * 2 ^ (L + 52) = 2 ^ 52 * (562949953421312 * U * 2 ^ L) := by rw [Nat.pow_add, ← Nat.mul_assoc, Nat.mul_comm]
      rw [e'] at k1
      generalize 562949953421312 * U * 2 ^ L = X at *
      omega
  have f4 : b < INF := rnd_fin (by omega) r4 (by omega)
  rw [min_fin f4] at e4
  refine ⟨fg, a, c, b, e1, f1, e2, f2, ?_, e3, f3, e4, f4, ?_⟩
  · intro hlt
    rw [if_neg (by omega)] at v2
    omega
  · clear k2 k3 k1 r1 r2 r3 r4 e1 e2 e3 e4
    generalize U * (V o / U) = Q at *
    generalize V o % U = M at *
    by_cases hle : V want ≤ V fg
    · rw [if_pos hle] at v2
      omega
    · rw [if_neg hle] at v2
      omega

end Go.Proofs.Qxb6609144a
