/-
  The walks of the seat b6609144a: b1AbsF, offset, ZZOffset.
-/
import Derived.Test.Qxb6609144aRows
import Derived.Test.Qxb6609144aGate
import Derived.WalkKit
import Derived.WalkSpells
import Derived.WalkLawsBesides
import Derived.Laws.FloatArith
namespace Go.Proofs.Qxb6609144a
open Go.RowKit

theorem format_eq : FloatKind.f64.format = Ieee.double := rfl

set_option maxHeartbeats 400000 in
theorem absW (s : Bool) (a : Nat) (ha : a < INF) (h : s = true → 0 < V a) (w : World) :
    Calls Try.prog 6 #[.float .f64 (Ieee.double.word s a)] w fun e w' => e = .returned (.float .f64 a) ∧ w' = w := by
  have hs : a < 2 ^ 63 := by unfold INF at ha; omega
  cases s with
  | false =>
    rw [word_pos]
    have ho : (FloatKind.f64.format.order a 0 == some .lt) = false := by
      rw [format_eq, order_pos ha fin_0, V_zero, if_neg (by omega)]
      split <;> rfl
    clear h ha hs
    go_enter Try.func6, Try.ntmps6
    go_wp2
    go_ret
    exact ⟨rfl, rfl⟩
  | true =>
    have ho : (FloatKind.f64.format.order (Ieee.double.word true a) 0 == some .lt) = true := by
      rw [format_eq, order_neg ha fin_0 (.inl (h rfl))]; rfl
    have hn : Hid (Op.negFloat .f64 (Ieee.double.word true a) = a) := by
      show (2 ^ 63 + a) ^^^ 2 ^ 63 = a
      exact neg_word a hs
    generalize Ieee.double.word true a = x at ho hn
    have hu : ∀ w, (Op.unary .neg (.float .f64 x)).run Try.prog w = .ok (.float .f64 a) w := fun w => by
      have e : (Op.unary .neg (.float .f64 x)).run Try.prog w = .ok (.float .f64 (Op.negFloat .f64 x)) w := rfl
      rw [e, hn.out]
    clear h ha hs hn
    go_enter Try.func6, Try.ntmps6
    go_wp2
    go_ret
    exact ⟨rfl, rfl⟩

theorem of_int (i fi : Nat) (h : Ieee.double.nearest false i 0 = fi) : floatOfInt .f64 (i : Int) = fi := by
  show Ieee.double.nearest (decide ((i : Int) < 0)) ((i : Int).natAbs) 0 = fi
  have e : decide ((i : Int) < 0) = false := by simp
  rw [e, Int.natAbs_natCast]
  exact h

set_option maxHeartbeats 400000 in
theorem offset9 (i rate : Nat) (D : Road i rate) (hfit : V D.o < 9223372036854775808 * U) (w : World) :
    Calls Try.prog 9 #[.int .i64 i, .float .f64 rate] w fun e w' => e = .returned (.int .i64 ((V D.o / U : Nat) : Int)) ∧ w' = w := by
  have h1 : floatOfInt .f64 (i : Int) = D.fi := of_int i D.fi D.hfi
  have h2 : ∀ t w, (binOp .quo t (.float .f64 D.fi) (.float .f64 rate)).run Try.prog w = .ok (.float .f64 D.d) w := fun t w => run_float_arith w .quo t .f64 D.fi rate D.d D.hd
  have h3 : ∀ t w, (binOp .mul t (.float .f64 D.d) (.float .f64 4741671816366391296)).run Try.prog w = .ok (.float .f64 D.o) w := fun t w => run_float_arith w .mul t .f64 D.d wG D.o D.ho
  have hv : floatToIntVal .f64 D.o .i64 = some ((V D.o / U : Nat) : Int) := by
    have hlt : V D.o / U < 9223372036854775808 := Nat.div_lt_of_lt_mul (by rw [Nat.mul_comm]; exact hfit)
    unfold floatToIntVal
    rw [show FloatKind.f64.decode D.o = Ieee.double.read D.o from rfl, toInt_rung D.fo]
    generalize V D.o / U = q at hlt
    simp only
    rw [if_pos]
    constructor
    · show (-9223372036854775808 : Int) ≤ _; omega
    · show _ ≤ (9223372036854775807 : Int); omega
  have h4 : ∀ w, (convert 22 29 (.float .f64 D.o)).run Try.prog w = .ok (.int .i64 ((V D.o / U : Nat) : Int)) w := fun w => run_convert_float_int w 22 29 .f64 .i64 D.o _ (by rw [Try.underlying22]; rfl) Try.underlying29 hv
  generalize ((V D.o / U : Nat) : Int) = r at *
  go_enter Try.func9, Try.ntmps9
  go_wp2_with (simp only [h2, h3, h4])
  go_ret
  exact ⟨rfl, rfl⟩

set_option maxHeartbeats 400000 in
theorem offset5 (i rate : Nat) (D : Road i rate) (hfit : V D.o < 9223372036854775808 * U) (w : World) :
    Calls Try.prog 5 #[.int .i64 i, .float .f64 rate] w fun e w' => e = .returned (.int .i64 ((V D.o / U : Nat) : Int)) ∧ w' = w := by
  have h9 := offset9 i rate D hfit
  generalize ((V D.o / U : Nat) : Int) = r at *
  have H : Hid (∀ w, Calls Try.prog 9 #[.int .i64 i, .float .f64 rate] w fun e w' => e = .returned (.int .i64 r) ∧ w' = w) := h9
  clear h9
  go_enter Try.func5, Try.ntmps5
  go_wp2_with (go_at_call 9; refine (H.out _).mono ?_; rintro e w ⟨rfl, rfl⟩)
  go_ret
  exact ⟨rfl, rfl⟩

end Go.Proofs.Qxb6609144a
