/-
  The walk of FnMayCreateExactlyTheLaterRoles (seat b6614574aD), the law itself.
-/
import Derived.Test.Qxb6614574aDoorLater
namespace Go.Proofs.Qxb6614574aDoor
open Go.RowKit

set_option maxHeartbeats 1000000 in
theorem later_walk (r o c : ByteArray) (bm : Nat) (w : World) (hT : Tab w bm) (mr : r.size ≤ maxLen) (mo : o.size ≤ maxLen) (mc : c.size ≤ maxLen) :
    Calls Tryd.prog 3 #[.string r, .string o, .string c] w fun e w' => e = .returned (.bool true) ∧ w' = w := by
  have Z : Hid (Calls Tryd.prog 7 #[.string r, .string o, .string c] w fun e w' => ∃ b, e = .returned (.bool b) ∧ w' = w) := zzb7 r o c w mr mo mc
  have HR : Hid (Calls Tryd.prog 8 #[.string r] w fun e w' => e = .returned (.int .i64 (rank r.toList)) ∧ w' = w) := roleRank r w
  have HO : Hid (Calls Tryd.prog 8 #[.string o] w fun e w' => e = .returned (.int .i64 (rank o.toList)) ∧ w' = w) := roleRank o w
  have Mro : Hid (Calls Tryd.prog 9 #[.string r, .string o] w fun e w' => e = .returned (.bool (may r.toList o.toList)) ∧ w' = w) := mayCreate r o bm w hT mr
  have Moc : Hid (Calls Tryd.prog 9 #[.string o, .string c] w fun e w' => e = .returned (.bool (may o.toList c.toList)) ∧ w' = w) := mayCreate o c bm w hT mo
  have Mrc : Hid (Calls Tryd.prog 9 #[.string r, .string c] w fun e w' => e = .returned (.bool (may r.toList c.toList)) ∧ w' = w) := mayCreate r c bm w hT mr
  have Mor : Hid (Calls Tryd.prog 9 #[.string o, .string r] w fun e w' => e = .returned (.bool (may o.toList r.toList)) ∧ w' = w) := mayCreate o r bm w hT mo
  simp only [may_rank] at Mro Moc Mrc Mor
  generalize rank r.toList = a at *
  generalize rank o.toList = b at *
  generalize rank c.toList = d at *
  clear hT
  unfold maxLen at mr mo mc
  by_cases h1 : r.size ≤ 262144
  case neg =>
    go_enter Tryd.func3, Tryd.ntmps3
    go_wp2_with (go_at_call 7; refine Z.out.mono ?_; rintro e w ⟨b, rfl, rfl⟩)
    all_goals
      go_ret
      exact ⟨rfl, rfl⟩
  by_cases h2 : o.size ≤ 262144
  case neg =>
    go_enter Tryd.func3, Tryd.ntmps3
    go_wp2_with (go_at_call 7; refine Z.out.mono ?_; rintro e w ⟨b, rfl, rfl⟩)
    all_goals
      go_ret
      exact ⟨rfl, rfl⟩
  by_cases h3 : c.size ≤ 262144
  case neg =>
    go_enter Tryd.func3, Tryd.ntmps3
    go_wp2_with (go_at_call 7; refine Z.out.mono ?_; rintro e w ⟨b, rfl, rfl⟩)
    all_goals
      go_ret
      exact ⟨rfl, rfl⟩
  clear mr mo mc
  go_enter Tryd.func3, Tryd.ntmps3
  go_wp2_with fail
  refine Z.out.mono ?_
  rintro e w ⟨b0, rfl, rfl⟩
  cases b0 with
  | false =>
    go_wp2
    go_ret
    exact ⟨rfl, rfl⟩
  | true =>
    go_wp2_with fail
    refine HR.out.mono ?_
    rintro e w ⟨rfl, rfl⟩
    go_wp2_with fail
    refine HO.out.mono ?_
    rintro e w ⟨rfl, rfl⟩
    clear HR HO Z h1 h2 h3
    by_cases hab : (a = 0 ∨ a = 1) ∧ a < b
    · simp only [hab] at Mro
      obtain ⟨ha, hlt⟩ := hab
      have eor : decide ((b = 0 ∨ b = 1) ∧ b < a) = false := by simp; omega
      rw [eor] at Mor
      by_cases hbc : (b = 0 ∨ b = 1) ∧ b < d
      · have erc : decide ((a = 0 ∨ a = 1) ∧ a < d) = true := by simp; omega
        rw [erc] at Mrc
        simp only [hbc] at Moc
        clear hbc eor erc
        rcases ha with rfl | rfl
        all_goals
          go_wp2_with fail
          refine Mro.out.mono ?_
          rintro e w ⟨rfl, rfl⟩
          go_wp2_with fail
          refine Moc.out.mono ?_
          rintro e w ⟨rfl, rfl⟩
          go_wp2_with fail
          refine Mrc.out.mono ?_
          rintro e w ⟨rfl, rfl⟩
          go_wp2_with fail
          refine Mor.out.mono ?_
          rintro e w ⟨rfl, rfl⟩
          go_wp2
          go_ret
          exact ⟨rfl, rfl⟩
      · have eoc : decide ((b = 0 ∨ b = 1) ∧ b < d) = false := by simpa using hbc
        rw [eoc] at Moc
        clear hbc eor eoc Mrc
        rcases ha with rfl | rfl
        all_goals
          go_wp2_with fail
          refine Mro.out.mono ?_
          rintro e w ⟨rfl, rfl⟩
          go_wp2_with fail
          refine Moc.out.mono ?_
          rintro e w ⟨rfl, rfl⟩
          go_wp2_with fail
          refine Mor.out.mono ?_
          rintro e w ⟨rfl, rfl⟩
          go_wp2
          go_ret
          exact ⟨rfl, rfl⟩
    · have ero : decide ((a = 0 ∨ a = 1) ∧ a < b) = false := by simpa using hab
      rw [ero] at Mro
      clear ero Moc Mrc Mor
      by_cases h0 : a = 0
      · subst h0
        have hb : ¬ (0 : Int) < b := fun h => hab ⟨.inl rfl, h⟩
        clear hab
        go_wp2_with (go_at_call 9; refine Mro.out.mono ?_; rintro e w ⟨rfl, rfl⟩)
        go_ret
        exact ⟨rfl, rfl⟩
      · by_cases h1 : a = 1
        · subst h1
          have hb : ¬ (1 : Int) < b := fun h => hab ⟨.inr rfl, h⟩
          clear hab
          go_wp2_with (go_at_call 9; refine Mro.out.mono ?_; rintro e w ⟨rfl, rfl⟩)
          go_ret
          exact ⟨rfl, rfl⟩
        · have t0 : (a == 0) = false := by simpa using h0
          have t1 : (a == 1) = false := by simpa using h1
          clear hab h0 h1
          go_wp2_with (go_at_call 9; refine Mro.out.mono ?_; rintro e w ⟨rfl, rfl⟩)
          go_ret
          exact ⟨rfl, rfl⟩

end Go.Proofs.Qxb6614574aDoor
