/-
  The walk of FnMayCreateCountsAndRefusals (seat b6614574aD).
-/
import Derived.Test.Qxb6614574aDoorLater
namespace Go.Proofs.Qxb6614574aDoor
open Go.RowKit

/-- The declared roles, in order. -/
def decS : Nat → ByteArray
  | 0 => ⟨#[115, 117, 112, 101, 114, 95, 97, 100, 109, 105, 110]⟩
  | 1 => ⟨#[97, 100, 109, 105, 110]⟩
  | 2 => ⟨#[115, 117, 112, 112, 111, 114, 116]⟩
  | _ => ⟨#[117, 115, 101, 114]⟩

/-- How many of the first k declared roles r may create. -/
def cnt (r : List UInt8) : Nat → Nat
  | 0 => 0
  | k + 1 => cnt r k + (may r (decS k).toList).toNat

theorem cnt_le (r : List UInt8) (k : Nat) : cnt r k ≤ k := by
  induction k with
  | zero => exact Nat.le_refl _
  | succ k ih =>
    have : (may r (decS k).toList).toNat ≤ 1 := by cases may r (decS k).toList <;> simp
    simp only [cnt]
    omega

/-- The number of roles, off the place in the order. -/
def tot (a : Int) : Int := if a = 0 then 3 else if a = 1 then 2 else 0

theorem dec_lists : (decS 0).toList = superL ∧ (decS 1).toList = adminL ∧ (decS 2).toList = supportL ∧ (decS 3).toList = userL := by
  simp only [ByteArray.toList_eq]
  exact ⟨rfl, rfl, rfl, rfl⟩

theorem cnt_tot (r : List UInt8) : ((cnt r 4 : Nat) : Int) = tot (rank r) := by
  obtain ⟨d0, d1, d2, d3⟩ := dec_lists
  have r0 : rank superL = 0 := rfl
  have r1 : rank adminL = 1 := rfl
  have r2 : rank supportL = 2 := rfl
  have r3 : rank userL = 3 := rfl
  simp only [cnt, d0, d1, d2, d3, may_rank, r0, r1, r2, r3]
  rcases rank_cases r with ⟨_, h⟩ | ⟨_, h⟩ | ⟨_, h⟩ | ⟨_, h⟩ | ⟨_, _, _, _, h⟩ <;> rw [h] <;> rfl

set_option maxHeartbeats 400000 in
theorem declared (k : Nat) (hk : k < 4) (w : World) :
    Calls Tryd.prog 16 #[.int .i64 k] w fun e w' => e = .returned (.string (decS k)) ∧ w' = w := by
  have h : k = 0 ∨ k = 1 ∨ k = 2 ∨ k = 3 := by omega
  rcases h with rfl | rfl | rfl | rfl
  all_goals
    go_enter Tryd.func16, Tryd.ntmps16
    go_wp2
    go_ret
    exact ⟨rfl, rfl⟩

set_option maxHeartbeats 1000000 in
theorem count11 (r : ByteArray) (bm : Nat) (w : World) (hT : Tab w bm) (mr : r.size ≤ maxLen) :
    Calls Tryd.prog 11 #[.string r] w fun e w' => e = .returned (.int .i64 (tot (rank r.toList))) ∧ w' = w := by
  have HM : Hid (∀ o : ByteArray, Calls Tryd.prog 9 #[.string r, .string o] w fun e w' => e = .returned (.bool (may r.toList o.toList)) ∧ w' = w) := fun o => mayCreate r o bm w hT mr
  rw [← cnt_tot]
  clear hT mr
  go_enter Tryd.func11, Tryd.ntmps11
  go_wp2
  go_loop [3, 4] (fun n i => ∃ k : Nat, k ≤ 4 ∧ i = .int .i64 k ∧ n = .int .i64 (cnt r.toList k)) (fun _ i => 4 - (intOf i).toNat)
  case atStart => exact ⟨0, Nat.zero_le _, rfl, rfl⟩
  case round =>
    obtain ⟨k, hk, rfl, rfl⟩ := hrel
    by_cases hlt : k < 4
    · have hle := cnt_le r.toList k
      have H16 : Hid (Calls Tryd.prog 16 #[.int .i64 k] w fun e w' => e = .returned (.string (decS k)) ∧ w' = w) := declared k hlt w
      have H9 : Hid (Calls Tryd.prog 9 #[.string r, .string (decS k)] w fun e w' => e = .returned (.bool (may r.toList (decS k).toList)) ∧ w' = w) := HM.out _
      have hs : Hid (cnt r.toList (k + 1) = cnt r.toList k + (may r.toList (decS k).toList).toNat) := rfl
      generalize decS k = o at *
      generalize may r.toList o.toList = B at *
      generalize cnt r.toList k = m at *
      cases B
      all_goals
        go_wp2_with (first | (go_at_call 16; refine H16.out.mono ?_; rintro e w ⟨rfl, rfl⟩) | (go_at_call 9; refine H9.out.mono ?_; rintro e w ⟨rfl, rfl⟩))
        go_round
        case rel => exact ⟨k + 1, by omega, by go_num, by rw [hs.out]; simp⟩
        case measure => simp [intOf]; omega
    · obtain rfl : k = 4 := by omega
      go_wp2
      go_ret
      exact ⟨rfl, rfl⟩

end Go.Proofs.Qxb6614574aDoor
