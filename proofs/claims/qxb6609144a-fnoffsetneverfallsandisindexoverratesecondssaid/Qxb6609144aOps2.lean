/-
  What the operations of Ieee.double give: '-', '/', comparison, the cut to an integer. No Go in sight. (seat b6609144a)
-/
import Derived.Test.Qxb6609144aOps
namespace Go.Proofs.Qxb6609144a
set_option linter.unusedVariables false
open Ieee

theorem sub_rnd {x y : Nat} (hx : x < INF) (hy : y < INF) : ∃ r, IsRnd (if V y ≤ V x then V x - V y else V y - V x) 1 r ∧
    Ieee.double.sub x y = some (Ieee.double.word (decide (V x < V y)) (min r INF)) := by
  obtain ⟨m, e, rx, vx, -, -⟩ := read_rung hx
  obtain ⟨n, g, ry, vy, -, -⟩ := read_rung hy
  unfold Format.sub
  rw [rx, ry]
  simp only [Datum.sum, Datum.opposite, Option.map_some, Format.write, Ieee.signed, Bool.false_eq_true, if_false, Bool.not_false, if_true, Bool.false_and, Nat.shiftLeft_eq]
  have hb : min (-1074 + (e : Int)) (-1074 + (g : Int)) = -1074 + ((min e g : Nat) : Int) := by omega
  rw [hb]
  generalize hA : m * 2 ^ (-1074 + (e : Int) - (-1074 + ((min e g : Nat) : Int))).toNat = A
  generalize hC : n * 2 ^ (-1074 + (g : Int) - (-1074 + ((min e g : Nat) : Int))).toNat = C
  have e2 : (-1074 + ((min e g : Nat) : Int) + 1074).toNat = min e g := by omega
  have e3 : (-(-1074 + ((min e g : Nat) : Int) + 1074)).toNat = 0 := by omega
  have fx : V x = A * 2 ^ (min e g) := by rw [vx, ← hA, Nat.mul_assoc, ← Nat.pow_add]; congr 2; omega
  have fy : V y = C * 2 ^ (min e g) := by rw [vy, ← hC, Nat.mul_assoc, ← Nat.pow_add]; congr 2; omega
  have hp : 0 < 2 ^ (min e g) := Nat.two_pow_pos _
  have hlt : V x < V y ↔ A < C := by
    rw [fx, fy]
    exact ⟨fun h => Nat.lt_of_mul_lt_mul_right h, fun h => Nat.mul_lt_mul_of_pos_right h hp⟩
  have hs : (if (A : Int) + -(C : Int) = 0 then false else decide ((A : Int) + -(C : Int) < 0)) = decide (V x < V y) := by
    rw [show decide (V x < V y) = decide (A < C) from decide_eq_decide.2 hlt]
    split
    · simp; omega
    · rw [decide_eq_decide]; omega
  rw [hs]
  obtain ⟨r, h1, h2⟩ := near (decide (V x < V y)) ((A : Int) + -(C : Int)).natAbs (-1074 + ((min e g : Nat) : Int))
  refine ⟨r, ?_, by rw [h1]⟩
  refine rnd_congr (Nat.two_pow_pos _) (by omega) ?_ h2
  rw [e2, e3, Nat.pow_zero, Nat.mul_one, Nat.mul_one, fx, fy]
  by_cases hc : C ≤ A
  · rw [if_pos (Nat.mul_le_mul_right _ hc), ← Nat.sub_mul]
    congr 1; omega
  · rw [if_neg (by rw [← fx, ← fy]; have := hlt.2 (by omega); omega), ← Nat.sub_mul]
    congr 1; omega

theorem sticky (a n c : Nat) (hn : 0 < n) : rne (2 * (a / n) + (a % n != 0).toNat) (2 ^ (c + 2)) = rne a (n * 2 ^ (c + 1)) := by
  have eK : 2 ^ (c + 2) = 4 * 2 ^ c := by rw [Nat.pow_add]; omega
  have eK1 : 2 ^ (c + 1) = 2 * 2 ^ c := by rw [Nat.pow_succ]; omega
  rw [eK, eK1]
  have hK : 0 < 2 ^ c := Nat.two_pow_pos _
  generalize 2 ^ c = K at hK
  have hs : (a % n != 0).toNat ≤ 1 := toNat_le_one _
  have hs0 : (a % n != 0).toNat = 0 ↔ a % n = 0 := by
    by_cases h : a % n = 0 <;> simp [h]
  have hm := Nat.mod_mul (a := n) (b := 2 * K) (x := a)
  have hd := Nat.div_div_eq_div_mul a n (2 * K)
  have hr : a % n < n := Nat.mod_lt _ hn
  unfold rne
  rw [hm, ← hd]
  generalize a / n = F at *
  generalize (a % n != 0).toNat = s at *
  generalize a % n = ρ at *
  have q1 : (2 * F + s) / (4 * K) = F / (2 * K) := by
    rw [show 4 * K = 2 * (2 * K) by omega, ← Nat.div_div_eq_div_mul]
    congr 1; omega
  have q2 : (2 * F + s) % (4 * K) = 2 * (F % (2 * K)) + s := by
    have h1 := Nat.div_add_mod F (2 * K)
    have h2 := Nat.div_add_mod (2 * F + s) (4 * K)
    rw [q1] at h2
    have h3 : 4 * K * (F / (2 * K)) = 2 * (2 * K * (F / (2 * K))) := by rw [← Nat.mul_assoc]; congr 1; omega
    omega
  rw [q1, q2]
  generalize F / (2 * K) = Q
  generalize F % (2 * K) = f
  have c1 : (4 * K < 2 * (2 * f + s)) ↔ (n * (2 * K) < 2 * (ρ + n * f)) := by
    rcases Nat.lt_trichotomy K f with h | h | h
    · have h1 : n * (K + 1) ≤ n * f := Nat.mul_le_mul_left n h
      rw [Nat.mul_add] at h1
      have h2 : n * (2 * K) = 2 * (n * K) := by rw [Nat.mul_left_comm]
      constructor
      · intro _; omega
      · intro _; omega
    · subst h
      have h2 : n * (2 * K) = 2 * (n * K) := by rw [Nat.mul_left_comm]
      constructor
      · intro _
        have : s = 1 := by omega
        have : ρ ≠ 0 := by intro h; have := hs0.2 h; omega
        omega
      · intro _
        have : ρ ≠ 0 := by omega
        have : s ≠ 0 := fun h => this (hs0.1 h)
        omega
    · have h1 : n * (f + 1) ≤ n * K := Nat.mul_le_mul_left n h
      rw [Nat.mul_add] at h1
      have h2 : n * (2 * K) = 2 * (n * K) := by rw [Nat.mul_left_comm]
      constructor
      · intro _; omega
      · intro _; omega
  have c2 : (4 * K = 2 * (2 * f + s)) ↔ (n * (2 * K) = 2 * (ρ + n * f)) := by
    have h2 : n * (2 * K) = 2 * (n * K) := by rw [Nat.mul_left_comm]
    rcases Nat.lt_trichotomy K f with h | h | h
    · have h1 : n * (K + 1) ≤ n * f := Nat.mul_le_mul_left n h
      rw [Nat.mul_add] at h1
      constructor
      · intro _; omega
      · intro _; omega
    · subst h
      constructor
      · intro _
        have : ρ = 0 := hs0.1 (by omega)
        omega
      · intro _
        have : s = 0 := hs0.2 (by omega)
        omega
    · have h1 : n * (f + 1) ≤ n * K := Nat.mul_le_mul_left n h
      rw [Nat.mul_add] at h1
      constructor
      · intro _; omega
      · intro _; omega
  rw [decide_eq_decide.2 c1, decide_eq_decide.2 c2]

theorem div_rnd {x y : Nat} (hx : x < INF) (hy : y < INF) (hpos : 0 < V y) : ∃ r, Ieee.double.div x y = some (min r INF) ∧ IsRnd (V x * U) (V y) r := by
  obtain ⟨m, e, rx, vx, mb, -⟩ := read_rung hx
  obtain ⟨n, g, ry, vy, nb, -⟩ := read_rung hy
  have hn : 0 < n := by
    rcases Nat.eq_zero_or_pos n with h | h
    · rw [h, Nat.zero_mul] at vy; omega
    · exact h
  have hE := E0_eq
  unfold Format.div
  rw [rx, ry]
  have hfb : Ieee.double.fractionBits + 2 = 54 := rfl
  rw [hfb]
  simp only [Datum.quotient, if_neg (show ¬ n = 0 by omega), Option.map_some, Format.write, Nat.shiftLeft_eq]
  generalize hmore : 54 + n.log2 - m.log2 = more
  obtain ⟨r, h1, h2⟩ := near (false ^^ false) (2 * (m * 2 ^ more / n) + (m * 2 ^ more % n != 0).toNat) (-1074 + (e : Int) - (-1074 + (g : Int)) - more - 1)
  refine ⟨r, by rw [h1]; rfl, ?_⟩
  clear h1
  rcases Nat.eq_zero_or_pos m with hm0 | hm
  · subst hm0
    have : 2 * (0 * 2 ^ more / n) + (0 * 2 ^ more % n != 0).toNat = 0 := by simp
    rw [this, Nat.zero_mul] at h2
    have := rnd_zero (Nat.two_pow_pos _) h2
    subst this
    rw [vx, Nat.zero_mul, Nat.zero_mul]
    exact rnd_zero_mk _ hpos
  have hlm : m.log2 ≤ 52 := by
    have := (Nat.log2_lt (n := m) (k := 53) (by omega)).2 mb
    omega
  have hln : n.log2 ≤ 52 := by
    have := (Nat.log2_lt (n := n) (k := 53) (by omega)).2 nb
    omega
  have hm1 : 2 ^ m.log2 ≤ m := Nat.log2_self_le (by omega)
  have hn2 : n < 2 ^ (n.log2 + 1) := (Nat.log2_lt (by omega)).1 (Nat.lt_succ_self _)
  -- the dividend
  have ha : n * 2 ^ 53 ≤ m * 2 ^ more := by
    calc n * 2 ^ 53 ≤ 2 ^ (n.log2 + 1) * 2 ^ 53 := Nat.mul_le_mul_right _ (Nat.le_of_lt hn2)
      _ = 2 ^ (m.log2 + more) := by rw [← Nat.pow_add]; congr 1; omega
      _ = 2 ^ m.log2 * 2 ^ more := Nat.pow_add _ _ _
      _ ≤ m * 2 ^ more := Nat.mul_le_mul_right _ hm1
  have hF : 2 ^ 53 ≤ m * 2 ^ more / n := (Nat.le_div_iff_mul_le hn).2 (by rw [Nat.mul_comm]; exact ha)
  generalize hap : (-1074 + (e : Int) - (-1074 + (g : Int)) - more - 1 + 1074).toNat = pp at h2
  generalize ham : (-(-1074 + (e : Int) - (-1074 + (g : Int)) - more - 1 + 1074)).toNat = pm at h2
  obtain ⟨L, k1, k2, rfl⟩ := h2
  have hst := sticky (m * 2 ^ more) n (pm + L - pp - 2) hn
  generalize ha' : m * 2 ^ more = a at *
  generalize hY : 2 * (a / n) + (a % n != 0).toNat = Y at *
  have hs1 := toNat_le_one (a % n != 0)
  have hYlo : 2 ^ 54 ≤ Y := by omega
  have hpp : 0 < 2 ^ pp := Nat.two_pow_pos _
  have hd : pp + 2 ≤ pm + L := by
    rw [← Nat.pow_add] at k2
    have : 2 ^ (54 + pp) < 2 ^ (pm + (L + 53)) := by
      refine Nat.lt_of_le_of_lt ?_ k2
      rw [Nat.pow_add]
      exact Nat.mul_le_mul_right _ hYlo
    have := (Nat.pow_lt_pow_iff_right (by omega)).1 this
    omega
  obtain ⟨c, hc⟩ : ∃ c, pm + L = pp + c + 2 := ⟨pm + L - pp - 2, by omega⟩
  rw [show pm + L - pp - 2 = c by omega] at hst
  obtain ⟨t, ht⟩ : ∃ t, e + E0 = more + t := ⟨e + E0 - more, by omega⟩
  have hrel : g + L + 1 = t + c + 2 := by omega
  have exU : V x * U = a * 2 ^ t := by
    rw [vx, ← ha']; unfold U
    rw [Nat.mul_assoc, Nat.mul_assoc, ← Nat.pow_add, ← Nat.pow_add, ht]
  refine ⟨L, ?_, ?_, ?_⟩
  · rcases k1 with k1 | k1
    · exact .inl k1
    · right
      rw [← Nat.pow_add, show pm + (L + 52) = (c + 54) + pp by omega, Nat.pow_add] at k1
      have k1' : 2 ^ (c + 54) ≤ Y := Nat.le_of_mul_le_mul_right k1 hpp
      have k3 : 2 ^ (c + 53) ≤ a / n := by
        have : 2 ^ (c + 54) = 2 * 2 ^ (c + 53) := by rw [Nat.pow_succ (n := 2) (m := c + 53)]; omega
        omega
      have k4 : 2 ^ (c + 53) * n ≤ a := (Nat.le_div_iff_mul_le hn).1 k3
      rw [exU, vy, Nat.mul_assoc, ← Nat.pow_add, show g + (L + 52) = (c + 53) + t by omega, Nat.pow_add, ← Nat.mul_assoc, Nat.mul_comm n]
      exact Nat.mul_le_mul_right _ k4
  · rw [← Nat.pow_add, show pm + (L + 53) = (c + 55) + pp by omega, Nat.pow_add] at k2
    have k2' : Y < 2 ^ (c + 55) := Nat.lt_of_mul_lt_mul_right k2
    have k3 : a / n < 2 ^ (c + 54) := by
      have : 2 ^ (c + 55) = 2 * 2 ^ (c + 54) := by rw [Nat.pow_succ (n := 2) (m := c + 54)]; omega
      omega
    have k4 : a < 2 ^ (c + 54) * n := (Nat.div_lt_iff_lt_mul hn).1 k3
    rw [exU, vy, Nat.mul_assoc, ← Nat.pow_add, show g + (L + 53) = (c + 54) + t by omega, Nat.pow_add, ← Nat.mul_assoc, Nat.mul_comm n]
    exact Nat.mul_lt_mul_of_pos_right k4 (Nat.two_pow_pos _)
  · refine congrArg (L * 2 ^ 52 + ·) ?_
    have e1 : rne (Y * 2 ^ pp) (2 ^ pm * 2 ^ L) = rne Y (2 ^ (c + 2)) := by
      apply rne_eq (Nat.mul_pos (Nat.two_pow_pos _) (Nat.two_pow_pos _)) (Nat.two_pow_pos _)
      rw [Nat.mul_assoc, ← Nat.pow_add, ← Nat.pow_add, show pm + L = pp + (c + 2) by omega]
    rw [e1, hst]
    apply rne_eq (Nat.mul_pos hn (Nat.two_pow_pos _)) (Nat.mul_pos hpos (Nat.two_pow_pos _))
    have f1 : a * (n * 2 ^ g * 2 ^ L) = a * n * 2 ^ (g + L) := by rw [Nat.mul_assoc n, ← Nat.pow_add, Nat.mul_assoc]
    have f2 : a * 2 ^ t * (n * 2 ^ (c + 1)) = a * n * 2 ^ (t + (c + 1)) := by rw [Nat.mul_mul_mul_comm, ← Nat.pow_add]
    rw [exU, vy, f1, f2, show g + L = t + (c + 1) by omega]

/-- How two numbers that are not negative stand to each other. -/
theorem order_pos {x y : Nat} (hx : x < INF) (hy : y < INF) : Ieee.double.order x y = some (if V x < V y then .lt else if V x = V y then .eq else .gt) := by
  obtain ⟨m, e, rx, vx, -, -⟩ := read_rung hx
  obtain ⟨n, g, ry, vy, -, -⟩ := read_rung hy
  unfold Format.order
  rw [rx, ry]
  simp only [Datum.order, Ieee.signed, Bool.false_eq_true, if_false, Nat.shiftLeft_eq]
  have hb : min (-1074 + (e : Int)) (-1074 + (g : Int)) = -1074 + ((min e g : Nat) : Int) := by omega
  rw [hb]
  generalize hA : m * 2 ^ (-1074 + (e : Int) - (-1074 + ((min e g : Nat) : Int))).toNat = A
  generalize hC : n * 2 ^ (-1074 + (g : Int) - (-1074 + ((min e g : Nat) : Int))).toNat = C
  have fx : V x = A * 2 ^ (min e g) := by rw [vx, ← hA, Nat.mul_assoc, ← Nat.pow_add]; congr 2; omega
  have fy : V y = C * 2 ^ (min e g) := by rw [vy, ← hC, Nat.mul_assoc, ← Nat.pow_add]; congr 2; omega
  have hp : 0 < 2 ^ (min e g) := Nat.two_pow_pos _
  have hlt : V x < V y ↔ A < C := by
    rw [fx, fy]
    exact ⟨fun h => Nat.lt_of_mul_lt_mul_right h, fun h => Nat.mul_lt_mul_of_pos_right h hp⟩
  have heq : V x = V y ↔ A = C := by
    rw [fx, fy]
    exact ⟨fun h => Nat.eq_of_mul_eq_mul_right hp h, fun h => by rw [h]⟩
  rcases Nat.lt_trichotomy A C with h | h | h
  · rw [if_pos (hlt.2 h)]
    rw [Int.compare_eq_lt.2 (by omega)]
  · rw [if_neg (fun h' => by have := hlt.1 h'; omega), if_pos (heq.2 h)]
    rw [Int.compare_eq_eq.2 (by omega)]
  · rw [if_neg (fun h' => by have := hlt.1 h'; omega), if_neg (fun h' => by have := heq.1 h'; omega)]
    rw [Int.compare_eq_gt.2 (by omega)]

/-- A number below zero. -/
theorem order_neg {r y : Nat} (hr : r < INF) (hy : y < INF) (h : 0 < V r ∨ 0 < V y) : Ieee.double.order (Ieee.double.word true r) y = some .lt := by
  obtain ⟨m, e, rx, vx⟩ := read_neg hr
  obtain ⟨n, g, ry, vy, -, -⟩ := read_rung hy
  unfold Format.order
  rw [rx, ry]
  simp only [Datum.order, Ieee.signed, Bool.false_eq_true, if_false, if_true, Nat.shiftLeft_eq]
  have hm : 0 < m ∨ 0 < n := by
    rcases h with h | h
    · left
      rcases Nat.eq_zero_or_pos m with h' | h'
      · rw [h', Nat.zero_mul] at vx; omega
      · exact h'
    · right
      rcases Nat.eq_zero_or_pos n with h' | h'
      · rw [h', Nat.zero_mul] at vy; omega
      · exact h'
  generalize hk : (-1074 + (e : Int) - min (-1074 + (e : Int)) (-1074 + (g : Int))).toNat = k1
  generalize hl : (-1074 + (g : Int) - min (-1074 + (e : Int)) (-1074 + (g : Int))).toNat = k2
  have p1 : 0 < m → 0 < m * 2 ^ k1 := fun h => Nat.mul_pos h (Nat.two_pow_pos _)
  have p2 : 0 < n → 0 < n * 2 ^ k2 := fun h => Nat.mul_pos h (Nat.two_pow_pos _)
  rw [Int.compare_eq_lt.2 (by rcases hm with h | h; (have := p1 h; omega); (have := p2 h; omega))]

/-- The cut towards zero. -/
theorem toInt_rung {x : Nat} (hx : x < INF) : (Ieee.double.read x).toInt .zero = some ((V x / U : Nat) : Int) := by
  obtain ⟨m, e, rx, vx, -, -⟩ := read_rung hx
  rw [rx]
  simp only [Datum.toInt, Datum.integral, cut_zero, Ieee.signed, Bool.false_eq_true, if_false, Nat.shiftLeft_eq, Nat.pow_zero, Nat.mul_one]
  congr 2
  rw [vx]
  have hE := E0_eq
  unfold U
  by_cases h : E0 ≤ e
  · have a1 : (-1074 + (e : Int)).toNat = e - E0 := by omega
    have a2 : (-(-1074 + (e : Int))).toNat = 0 := by omega
    rw [a1, a2, Nat.pow_zero, Nat.div_one]
    have : m * 2 ^ e = m * 2 ^ (e - E0) * 2 ^ E0 := by rw [Nat.mul_assoc, ← Nat.pow_add]; congr 2; omega
    rw [this, Nat.mul_div_cancel _ (Nat.two_pow_pos _)]
  · have a1 : (-1074 + (e : Int)).toNat = 0 := by omega
    have a2 : (-(-1074 + (e : Int))).toNat = E0 - e := by omega
    rw [a1, a2, Nat.pow_zero, Nat.mul_one]
    have : 2 ^ E0 = 2 ^ (E0 - e) * 2 ^ e := by rw [← Nat.pow_add]; congr 1; omega
    rw [this, Nat.mul_div_mul_right _ _ (Nat.two_pow_pos _)]

/-- A whole number's float. -/
theorem ofInt_rnd (n : Nat) : ∃ r, Ieee.double.nearest false n 0 = min r INF ∧ IsRnd (n * U) 1 r := by
  obtain ⟨r, h1, h2⟩ := near false n 0
  refine ⟨r, h1, ?_⟩
  have hE := E0_eq
  have a1 : ((0 : Int) + 1074).toNat = E0 := by omega
  have a2 : (-((0 : Int) + 1074)).toNat = 0 := by omega
  rw [a1, a2] at h2
  exact h2

/-- A rounding stays below a power of two. -/
theorem rnd_lt {A B r K : Nat} (hB : 0 < B) (h : IsRnd A B r) (hA : A ≤ B * 2 ^ (K + 52)) : r ≤ K * 2 ^ 52 + 2 ^ 52 := by
  have h2 : IsRnd (2 ^ (K + 52)) 1 (K * 2 ^ 52 + 2 ^ 52) := by
    refine ⟨K, .inr (by omega), ?_, ?_⟩
    · rw [Nat.one_mul]; exact Nat.pow_lt_pow_right (by omega) (by omega)
    · rw [Nat.one_mul, Nat.pow_add, Nat.mul_comm (2 ^ K), rne_whole _ _ (Nat.two_pow_pos _)]
  refine rnd_mono hB (by omega) h h2 ?_
  rw [Nat.mul_one, Nat.mul_comm]; exact hA

end Go.Proofs.Qxb6609144a
