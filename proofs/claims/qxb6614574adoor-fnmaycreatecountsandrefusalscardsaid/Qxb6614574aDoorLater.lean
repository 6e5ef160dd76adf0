/-
  The walk of FnMayCreateExactlyTheLaterRoles (seat b6614574aD).
-/
import Derived.Test.Qxb6614574aDoorTab
namespace Go.Proofs.Qxb6614574aDoor
open Go.RowKit

set_option maxHeartbeats 400000 in
theorem mayCreate (r o : ByteArray) (bm : Nat) (w : World) (hT : Tab w bm) (hr : r.size ≤ maxLen) :
    Calls Tryd.prog 9 #[.string r, .string o] w fun e w' => e = .returned (.bool (may r.toList o.toList)) ∧ w' = w := by
  obtain ⟨hc, hl⟩ := hT
  obtain ⟨v, hrun, hs⟩ := hl r hr
  have hlen : (creat r.toList).length ≤ 100 := by unfold creat; split <;> (try split) <;> simp
  have H : Hid (Calls Tryd.prog 15 #[v, .string o] w fun e w' => e = .returned (.bool (may r.toList o.toList)) ∧ w' = w) := contains15 v (creat r.toList) o w hs hlen
  clear hl hs hlen
  generalize may r.toList o.toList = B at *
  go_enter Tryd.func9, Tryd.ntmps9
  go_wp2_with (go_at_call 15; refine H.out.mono ?_; rintro e w ⟨rfl, rfl⟩)
  go_ret
  exact ⟨rfl, rfl⟩

set_option maxHeartbeats 400000 in
theorem roleRank (s : ByteArray) (w : World) :
    Calls Tryd.prog 8 #[.string s] w fun e w' => e = .returned (.int .i64 (rank s.toList)) ∧ w' = w := by
  unfold rank superL adminL supportL userL
  generalize hl : s.toList = l
  have HL : Hid (s.toList = l) := hl
  by_cases h1 : l = [115, 117, 112, 101, 114, 95, 97, 100, 109, 105, 110]
  · have t1 : (s.toList == [115, 117, 112, 101, 114, 95, 97, 100, 109, 105, 110]) = true := by rw [hl, h1]; rfl
    rw [if_pos h1]
    clear hl h1
    go_enter Tryd.func8, Tryd.ntmps8
    go_wp2
    go_ret
    exact ⟨rfl, rfl⟩
  · have t1 : (s.toList == [115, 117, 112, 101, 114, 95, 97, 100, 109, 105, 110]) = false := by rw [hl, beq_eq_false_iff_ne]; exact h1
    rw [if_neg h1]
    clear h1
    by_cases h2 : l = [97, 100, 109, 105, 110]
    · have t2 : (s.toList == [97, 100, 109, 105, 110]) = true := by rw [hl, h2]; rfl
      rw [if_pos h2]
      clear hl h2
      go_enter Tryd.func8, Tryd.ntmps8
      go_wp2
      go_ret
      exact ⟨rfl, rfl⟩
    · have t2 : (s.toList == [97, 100, 109, 105, 110]) = false := by rw [hl, beq_eq_false_iff_ne]; exact h2
      rw [if_neg h2]
      clear h2
      by_cases h3 : l = [115, 117, 112, 112, 111, 114, 116]
      · have t3 : (s.toList == [115, 117, 112, 112, 111, 114, 116]) = true := by rw [hl, h3]; rfl
        rw [if_pos h3]
        clear hl h3
        go_enter Tryd.func8, Tryd.ntmps8
        go_wp2
        go_ret
        exact ⟨rfl, rfl⟩
      · have t3 : (s.toList == [115, 117, 112, 112, 111, 114, 116]) = false := by rw [hl, beq_eq_false_iff_ne]; exact h3
        rw [if_neg h3]
        clear h3
        by_cases h4 : l = [117, 115, 101, 114]
        · have t4 : (s.toList == [117, 115, 101, 114]) = true := by rw [hl, h4]; rfl
          rw [if_pos h4]
          clear hl h4
          go_enter Tryd.func8, Tryd.ntmps8
          go_wp2
          go_ret
          exact ⟨rfl, rfl⟩
        · have t4 : (s.toList == [117, 115, 101, 114]) = false := by rw [hl, beq_eq_false_iff_ne]; exact h4
          rw [if_neg h4]
          clear hl h4
          go_enter Tryd.func8, Tryd.ntmps8
          go_wp2
          go_ret
          exact ⟨rfl, rfl⟩

set_option maxHeartbeats 400000 in
theorem zzb7 (r o c : ByteArray) (w : World) (mr : r.size ≤ maxLen) (mo : o.size ≤ maxLen) (mc : c.size ≤ maxLen) :
    Calls Tryd.prog 7 #[.string r, .string o, .string c] w fun e w' => ∃ b, e = .returned (.bool b) ∧ w' = w := by
  unfold maxLen at mr mo mc
  go_enter Tryd.func7, Tryd.ntmps7
  go_wp2
  all_goals
    go_ret
    exact ⟨_, rfl, rfl⟩

/-! The plain law. -/
theorem rank_cases (l : List UInt8) : (l = superL ∧ rank l = 0) ∨ (l = adminL ∧ rank l = 1) ∨ (l = supportL ∧ rank l = 2) ∨ (l = userL ∧ rank l = 3) ∨
    (l ≠ superL ∧ l ≠ adminL ∧ l ≠ supportL ∧ l ≠ userL ∧ rank l = -1) := by
  by_cases h1 : l = superL
  · exact .inl ⟨h1, by unfold rank; rw [if_pos h1]⟩
  by_cases h2 : l = adminL
  · exact .inr (.inl ⟨h2, by unfold rank; rw [if_neg h1, if_pos h2]⟩)
  by_cases h3 : l = supportL
  · exact .inr (.inr (.inl ⟨h3, by unfold rank; rw [if_neg h1, if_neg h2, if_pos h3]⟩))
  by_cases h4 : l = userL
  · exact .inr (.inr (.inr (.inl ⟨h4, by unfold rank; rw [if_neg h1, if_neg h2, if_neg h3, if_pos h4]⟩)))
  · exact .inr (.inr (.inr (.inr ⟨h1, h2, h3, h4, by unfold rank; rw [if_neg h1, if_neg h2, if_neg h3, if_neg h4]⟩)))

theorem may_super (o : List UInt8) : may superL o = decide (0 < rank o) := by
  rcases rank_cases o with ⟨rfl, h⟩ | ⟨rfl, h⟩ | ⟨rfl, h⟩ | ⟨rfl, h⟩ | ⟨h1, h2, h3, h4, h⟩
  · rw [h]; rfl
  · rw [h]; rfl
  · rw [h]; rfl
  · rw [h]; rfl
  · rw [h]; simp [may, creat, h2, h3, h4]
theorem may_admin (o : List UInt8) : may adminL o = decide (1 < rank o) := by
  have e : creat adminL = [supportL, userL] := rfl
  rcases rank_cases o with ⟨rfl, h⟩ | ⟨rfl, h⟩ | ⟨rfl, h⟩ | ⟨rfl, h⟩ | ⟨h1, h2, h3, h4, h⟩
  · rw [h]; rfl
  · rw [h]; rfl
  · rw [h]; rfl
  · rw [h]; rfl
  · rw [h]; simp [may, e, h3, h4]
theorem may_other (r o : List UInt8) (h1 : r ≠ superL) (h2 : r ≠ adminL) : may r o = false := by simp [may, creat, h1, h2]

/-- A role may create just the roles behind it, the first two alone. -/
theorem may_rank (r o : List UInt8) : may r o = decide ((rank r = 0 ∨ rank r = 1) ∧ rank r < rank o) := by
  rcases rank_cases r with ⟨rfl, h⟩ | ⟨rfl, h⟩ | ⟨rfl, h⟩ | ⟨rfl, h⟩ | ⟨h1, h2, h3, h4, h⟩
  · rw [may_super, h]; simp
  · rw [may_admin, h]; simp
  · rw [may_other _ _ (by decide) (by decide), h]; simp
  · rw [may_other _ _ (by decide) (by decide), h]; simp
  · rw [may_other _ _ h1 h2, h]; simp

end Go.Proofs.Qxb6614574aDoor
