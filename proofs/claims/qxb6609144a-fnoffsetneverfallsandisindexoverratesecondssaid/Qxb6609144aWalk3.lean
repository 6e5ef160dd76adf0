/-
  The walk of FnOffsetNeverFallsAndIsIndexOverRateSeconds (seat b6609144a).
-/
import Derived.Test.Qxb6609144aWalk
import Derived.Deep.RegionWith
namespace Go.Proofs.Qxb6609144a
open Go.RowKit

theorem offset5' (i rate : Nat) (n : Int) (hn : n = ((i : Nat) : Int)) (D : Road i rate) (hfit : V D.o < 9223372036854775808 * U) (w : World) :
    Calls Try.prog 5 #[.int .i64 n, .float .f64 rate] w fun e w' => e = .returned (.int .i64 ((V D.o / U : Nat) : Int)) ∧ w' = w := by
  subst hn; exact offset5 i rate D hfit w

/-- What the test on 1e300 says, off the order. -/
theorem le300_of (x : Nat) : le300 x = (FloatKind.f64.format.order x 9094988921128908188 == some .lt || FloatKind.f64.format.order x 9094988921128908188 == some .eq) := rfl
theorem ge1_of (x : Nat) : ge1 x = (FloatKind.f64.format.order x 4607182418800017408 == some .gt || FloatKind.f64.format.order x 4607182418800017408 == some .eq) := rfl

theorem run_mul_none (x y : Nat) (h : Ieee.double.mul x y = none) (w : World) : ∃ b, ∀ t, (binOp .mul t (.float .f64 x) (.float .f64 y)).run Try.prog w = .ok (.float .f64 b) w.drew := by
  have h' : FloatKind.f64.format.mul x y = none := h
  simp [binOp, Op.floatArith, h', Question.forced]

set_option maxHeartbeats 1000000 in
/-- A rate that does not pass the gate. -/
theorem barred (i x : Nat) (hi : i + 1 < 9223372036854775808) (w : World) (h : ∀ m, Ieee.double.mul x wK = some m → ¬ (le300 x = true ∧ ge1 m = true)) (h0 : Ieee.double.mul x wK = none → le300 x = false) :
    Calls Try.prog 3 #[.int .i64 i, .float .f64 x] w fun e w' => e = .returned (.bool true) ∧ Below w.heap.size w w' := by
  cases hm : Ieee.double.mul x wK with
  | none =>
    have hl := h0 hm
    obtain ⟨b, hb⟩ := run_mul_none x wK hm w
    have hb' : ∀ t, (binOp .mul t (.float .f64 x) (.float .f64 4652218415073722368)).run Try.prog w = .ok (.float .f64 b) w.drew := hb
    rw [le300_of] at hl
    clear hb h h0 hm
    generalize hq : FloatKind.f64.format.order x 9094988921128908188 = q at hl
    generalize hr : FloatKind.f64.format.order b 4607182418800017408 = r
    rcases q with _ | _ | _ | _ <;> first | (exfalso; revert hl; decide) | skip
    all_goals
      clear hl
      rcases r with _ | _ | _ | _
      all_goals
        go_enter Try.func3, Try.ntmps3
        go_wp2_with (simp only [hb'])
        go_ret
        exact ⟨rfl, (Below.refl _ _).drew⟩
  | some m =>
    have hg := h m hm
    have hb' : ∀ t w, (binOp .mul t (.float .f64 x) (.float .f64 4652218415073722368)).run Try.prog w = .ok (.float .f64 m) w := fun t w => run_float_arith w .mul t .f64 x wK m hm
    rw [le300_of, ge1_of] at hg
    clear h h0 hm
    generalize hq : FloatKind.f64.format.order x 9094988921128908188 = q at hg
    generalize hr : FloatKind.f64.format.order m 4607182418800017408 = r at hg
    rcases q with _ | _ | _ | _ <;> rcases r with _ | _ | _ | _ <;> first | (exfalso; revert hg; decide) | skip
    all_goals
      clear hg
      go_enter Try.func3, Try.ntmps3
      go_wp2_with (simp only [hb'])
      go_ret
      exact ⟨rfl, Below.refl _ _⟩

end Go.Proofs.Qxb6609144a
