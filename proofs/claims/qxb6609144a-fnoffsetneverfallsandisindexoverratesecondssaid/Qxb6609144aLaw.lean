/-
  The plain law of the seat b6609144a: entry i's offset, to rounding; and that it never falls. No Go in sight.
-/
import Derived.Test.Qxb6609144aOps2
import Derived.KernelRfl
namespace Go.Proofs.Qxb6609144a
set_option linter.unusedVariables false
open Ieee

/-- 1e9, 1e300, 8e18, 1<<49, 2, 1024, 1, 0 as words. -/
def wG : Nat := 4741671816366391296
def wM : Nat := 9094988921128908188
def w8 : Nat := 4889714496069617664
def wD : Nat := 4827858800541171712
def w2 : Nat := 4611686018427387904
def wK : Nat := 4652218415073722368
def w1 : Nat := 4607182418800017408

theorem V_G : V wG = 1000000000 * U := by kernel_rfl
theorem V_8 : V w8 = 8000000000000000000 * U := by kernel_rfl
theorem V_D : V wD = 562949953421312 * U := by kernel_rfl
theorem V_2 : V w2 = 2 * U := by kernel_rfl
theorem V_K : V wK = 1024 * U := by kernel_rfl
theorem V_1 : V w1 = U := by kernel_rfl
theorem V_M : 1152921504606846976 * V wM ≤ U * U := Nat.le_of_ble_eq_true (by kernel_rfl)
theorem V_M2 : V wM * 1024 ≤ 2 ^ (2029 + 52) := Nat.le_of_ble_eq_true (by kernel_rfl)
theorem U_big : 1267650600228229401496703205376 ≤ U := Nat.le_of_ble_eq_true (by kernel_rfl)
theorem top_eq : 383123885216472214589586756787577295904684780545900544 * U = 2 ^ (1200 + 52) := by kernel_rfl
theorem fin_G : wG < INF := Nat.le_of_ble_eq_true (n := wG + 1) (by kernel_rfl)
theorem fin_8 : w8 < INF := Nat.le_of_ble_eq_true (n := w8 + 1) (by kernel_rfl)
theorem fin_D : wD < INF := Nat.le_of_ble_eq_true (n := wD + 1) (by kernel_rfl)
theorem fin_2 : w2 < INF := Nat.le_of_ble_eq_true (n := w2 + 1) (by kernel_rfl)
theorem fin_K : wK < INF := Nat.le_of_ble_eq_true (n := wK + 1) (by kernel_rfl)
theorem fin_1 : w1 < INF := Nat.le_of_ble_eq_true (n := w1 + 1) (by kernel_rfl)
theorem fin_M : wM < INF := Nat.le_of_ble_eq_true (n := wM + 1) (by kernel_rfl)
theorem fin_0 : 0 < INF := Nat.le_of_ble_eq_true (n := 0 + 1) (by kernel_rfl)

/-- What stays below 2^178 is finite. -/
theorem rnd_fin {A B r : Nat} (hB : 0 < B) (h : IsRnd A B r) (hA : A ≤ B * (383123885216472214589586756787577295904684780545900544 * U)) : r < INF := by
  rw [top_eq] at hA
  have := rnd_lt hB h hA
  unfold INF
  omega

theorem rnd_err0 {A B r : Nat} (hB : 0 < B) (h : IsRnd A B r) (hn : A = 0 ∨ 2 ^ 52 * B ≤ A) :
    2 ^ 53 * (V r * B) ≤ (2 ^ 53 + 1) * A ∧ (2 ^ 53 - 1) * A ≤ 2 ^ 53 * (V r * B) := by
  rcases hn with h0 | hn
  · subst h0
    have := rnd_zero hB h
    subst this
    simp [V_zero]
  · exact rnd_err hB h hn

/-- Entry i's road, for a rate that is neither too small nor too great. -/
structure Road (i rate : Nat) where
  fi : Nat
  d : Nat
  o : Nat
  hfi : Ieee.double.nearest false i 0 = fi
  hd : Ieee.double.div fi rate = some d
  ho : Ieee.double.mul d wG = some o
  ffi : fi < INF
  fd : d < INF
  fo : o < INF
  rfi : IsRnd (i * U) 1 fi
  rd : IsRnd (V fi * U) (V rate) d
  ro : IsRnd (V d * V wG) U o
  vfi : 2 ^ 53 * V fi ≤ (2 ^ 53 + 1) * (i * U) ∧ (2 ^ 53 - 1) * (i * U) ≤ 2 ^ 53 * V fi
  zfi : V fi = 0 ∨ U ≤ 2 * V fi
  vd : 2 ^ 53 * (V d * V rate) ≤ (2 ^ 53 + 1) * (V fi * U) ∧ (2 ^ 53 - 1) * (V fi * U) ≤ 2 ^ 53 * (V d * V rate)
  vo : 2 ^ 53 * V o ≤ (2 ^ 53 + 1) * (1000000000 * V d) ∧ (2 ^ 53 - 1) * (1000000000 * V d) ≤ 2 ^ 53 * V o

theorem min_fin {r : Nat} (h : r < INF) : min r INF = r := Nat.min_eq_left (Nat.le_of_lt h)

theorem road (i rate : Nat) (hi : i < 2 ^ 63) (hr : rate < INF) (h1 : U ≤ 2048 * V rate) (h2 : V rate ≤ V wM) : Nonempty (Road i rate) := by
  have hU := U_pos
  have hB := U_big
  have hR : 0 < V rate := by omega
  obtain ⟨fi, e1, r1⟩ := ofInt_rnd i
  have hiU : i * U ≤ 2 ^ 63 * U := Nat.mul_le_mul_right _ (Nat.le_of_lt hi)
  have f1 : fi < INF := rnd_fin (by omega) r1 (by omega)
  rw [min_fin f1] at e1
  have v1 := rnd_err_one r1
  have z1 : V fi = 0 ∨ U ≤ 2 * V fi := by
    rcases Nat.eq_zero_or_pos i with h | h
    · subst h; left; omega
    · right
      have : 1 * U ≤ i * U := Nat.mul_le_mul_right _ h
      omega
  obtain ⟨d, e2, r2⟩ := div_rnd f1 hr hR
  have hFU : V fi * U ≤ 2 ^ 64 * U * U := Nat.mul_le_mul_right _ (by omega)
  have hUR : U * U ≤ 2048 * V rate * U := Nat.mul_le_mul_right _ h1
  have f2 : d < INF := rnd_fin hR r2 (by
    have e : V rate * (383123885216472214589586756787577295904684780545900544 * U) = 383123885216472214589586756787577295904684780545900544 * (V rate * U) := Nat.mul_left_comm _ _ _
    rw [e]
    rw [Nat.mul_assoc] at hFU hUR
    omega)
  rw [min_fin f2] at e2
  have hRU : 1152921504606846976 * V rate ≤ U * U := Nat.le_trans (Nat.mul_le_mul_left _ h2) V_M
  have n2 : V fi * U = 0 ∨ 2 ^ 52 * V rate ≤ V fi * U := by
    rcases z1 with h | h
    · left; rw [h, Nat.zero_mul]
    · right
      have : U * U ≤ 2 * V fi * U := Nat.mul_le_mul_right _ h
      rw [Nat.mul_assoc] at this
      omega
  have v2 := rnd_err0 hR r2 n2
  obtain ⟨o, e3, r3⟩ := mul_rnd f2 fin_G
  have z2 : V d = 0 ∨ 2 ^ 53 ≤ V d := by
    rcases n2 with h | h
    · left
      rw [h] at v2
      have : V d * V rate = 0 := by omega
      rcases Nat.mul_eq_zero.1 this with h' | h'
      · exact h'
      · omega
    · right
      rcases z1 with h' | h'
      · rw [h', Nat.zero_mul] at h; omega
      · have h3 : U * U ≤ 2 * V fi * U := Nat.mul_le_mul_right _ h'
        rw [Nat.mul_assoc] at h3
        apply Nat.le_of_mul_le_mul_right (c := V rate) _ hR
        omega
  have dle : V d ≤ 2 ^ 76 * U := by
    apply Nat.le_of_mul_le_mul_right (c := V rate) _ hR
    rw [Nat.mul_assoc, Nat.mul_comm U]
    rw [Nat.mul_assoc] at hFU hUR
    omega
  have f3 : o < INF := rnd_fin hU r3 (by
    rw [V_G]
    have : V d * (1000000000 * U) ≤ 2 ^ 76 * U * (1000000000 * U) := Nat.mul_le_mul_right _ dle
    have e : 2 ^ 76 * U * (1000000000 * U) = 2 ^ 76 * 1000000000 * (U * U) := Nat.mul_mul_mul_comm _ _ _ _
    have e' : U * (383123885216472214589586756787577295904684780545900544 * U) = 383123885216472214589586756787577295904684780545900544 * (U * U) := Nat.mul_left_comm _ _ _
    rw [e'] 
    omega)
  rw [min_fin f3] at e3
  have v3 := rnd_err0 hU r3 (by
    rw [V_G]
    rcases z2 with h | h
    · left; rw [h, Nat.zero_mul]
    · right
      have : 2 ^ 53 * (1000000000 * U) ≤ V d * (1000000000 * U) := Nat.mul_le_mul_right _ h
      omega)
  have v3' : 2 ^ 53 * V o ≤ (2 ^ 53 + 1) * (1000000000 * V d) ∧ (2 ^ 53 - 1) * (1000000000 * V d) ≤ 2 ^ 53 * V o := by
    rw [V_G] at v3
    have e : V d * (1000000000 * U) = 1000000000 * V d * U := by rw [← Nat.mul_assoc, Nat.mul_comm (V d)]
    rw [e] at v3
    have a : 2 ^ 53 * V o * U = 2 ^ 53 * (V o * U) := Nat.mul_assoc _ _ _
    have b : (2 ^ 53 + 1) * (1000000000 * V d) * U = (2 ^ 53 + 1) * (1000000000 * V d * U) := Nat.mul_assoc _ _ _
    have c : (2 ^ 53 - 1) * (1000000000 * V d) * U = (2 ^ 53 - 1) * (1000000000 * V d * U) := Nat.mul_assoc _ _ _
    constructor
    · apply Nat.le_of_mul_le_mul_right (c := U) _ hU
      rw [a, b]; exact v3.1
    · apply Nat.le_of_mul_le_mul_right (c := U) _ hU
      rw [a, c]; exact v3.2
  exact ⟨⟨fi, d, o, e1, e2, e3, f1, f2, f3, r1, r2, r3, v1, z1, v2, v3'⟩⟩

end Go.Proofs.Qxb6609144a
