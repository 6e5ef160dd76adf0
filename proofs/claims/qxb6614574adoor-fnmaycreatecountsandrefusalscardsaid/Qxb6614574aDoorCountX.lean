/-
  The walk of FnMayCreateCountsAndRefusals (seat b6614574aD), the law itself.
-/
import Derived.Test.Qxb6614574aDoorCount
namespace Go.Proofs.Qxb6614574aDoor
open Go.RowKit

set_option maxHeartbeats 400000 in
theorem zzb10 (r o : ByteArray) (w : World) (mr : r.size ≤ maxLen) (mo : o.size ≤ maxLen) :
    Calls Tryd.prog 10 #[.string r, .string o] w fun e w' => ∃ b, e = .returned (.bool b) ∧ w' = w := by
  unfold maxLen at mr mo
  go_enter Tryd.func10, Tryd.ntmps10
  go_wp2
  all_goals
    go_ret
    exact ⟨_, rfl, rfl⟩

set_option maxHeartbeats 1000000 in
theorem count_walk (r o : ByteArray) (bm : Nat) (w : World) (hT : Tab w bm) (mr : r.size ≤ maxLen) (mo : o.size ≤ maxLen) :
    Calls Tryd.prog 4 #[.string r, .string o] w fun e w' => e = .returned (.bool true) ∧ w' = w := by
  have Z : Hid (Calls Tryd.prog 10 #[.string r, .string o] w fun e w' => ∃ b, e = .returned (.bool b) ∧ w' = w) := zzb10 r o w mr mo
  have HR : Hid (Calls Tryd.prog 8 #[.string r] w fun e w' => e = .returned (.int .i64 (rank r.toList)) ∧ w' = w) := roleRank r w
  have HO : Hid (Calls Tryd.prog 8 #[.string o] w fun e w' => e = .returned (.int .i64 (rank o.toList)) ∧ w' = w) := roleRank o w
  have CR : Hid (Calls Tryd.prog 11 #[.string r] w fun e w' => e = .returned (.int .i64 (tot (rank r.toList))) ∧ w' = w) := count11 r bm w hT mr
  have CO : Hid (Calls Tryd.prog 11 #[.string o] w fun e w' => e = .returned (.int .i64 (tot (rank o.toList))) ∧ w' = w) := count11 o bm w hT mo
  have Mrr : Hid (Calls Tryd.prog 9 #[.string r, .string r] w fun e w' => e = .returned (.bool (may r.toList r.toList)) ∧ w' = w) := mayCreate r r bm w hT mr
  have Mrs : Hid (Calls Tryd.prog 9 #[.string r, .string ⟨#[115, 117, 112, 101, 114, 95, 97, 100, 109, 105, 110]⟩] w fun e w' => e = .returned (.bool (may r.toList (decS 0).toList)) ∧ w' = w) := mayCreate r (decS 0) bm w hT mr
  have Mro : Hid (Calls Tryd.prog 9 #[.string r, .string o] w fun e w' => e = .returned (.bool (may r.toList o.toList)) ∧ w' = w) := mayCreate r o bm w hT mr
  have r0 : rank superL = 0 := rfl
  rw [dec_lists.1] at Mrs
  simp only [may_rank, r0] at Mrr Mrs Mro
  have err : decide ((rank r.toList = 0 ∨ rank r.toList = 1) ∧ rank r.toList < rank r.toList) = false := by simp
  have ers : decide ((rank r.toList = 0 ∨ rank r.toList = 1) ∧ rank r.toList < 0) = false := by simp; omega
  rw [err] at Mrr
  rw [ers] at Mrs
  clear err ers r0
  generalize rank r.toList = a at *
  generalize rank o.toList = b at *
  clear hT
  unfold maxLen at mr mo
  by_cases h1 : r.size ≤ 262144
  case neg =>
    go_enter Tryd.func4, Tryd.ntmps4
    go_wp2_with (go_at_call 10; refine Z.out.mono ?_; rintro e w ⟨b, rfl, rfl⟩)
    all_goals
      go_ret
      exact ⟨rfl, rfl⟩
  by_cases h2 : o.size ≤ 262144
  case neg =>
    go_enter Tryd.func4, Tryd.ntmps4
    go_wp2_with (go_at_call 10; refine Z.out.mono ?_; rintro e w ⟨b, rfl, rfl⟩)
    all_goals
      go_ret
      exact ⟨rfl, rfl⟩
  clear mr mo
  go_enter Tryd.func4, Tryd.ntmps4
  go_wp2_with fail
  refine Z.out.mono ?_
  rintro e w ⟨b0, rfl, rfl⟩
  cases b0 with
  | false =>
    go_wp2
    go_ret
    exact ⟨rfl, rfl⟩
  | true =>
    go_wp2_with fail
    refine HR.out.mono ?_
    rintro e w ⟨rfl, rfl⟩
    clear HR Z h1 h2
    by_cases hab : (a = 0 ∨ a = 1) ∧ a < b
    · simp only [hab] at Mro
      obtain ⟨ha, hlt⟩ := hab
      have hto : tot b < tot a ∧ 0 ≤ tot b ∧ 0 ≤ b := by
        unfold tot
        rcases ha with rfl | rfl
        · refine ⟨?_, ?_, by omega⟩
          · rw [if_neg (by omega), if_pos rfl]; split <;> omega
          · rw [if_neg (by omega)]; split <;> omega
        · refine ⟨?_, ?_, by omega⟩
          · rw [if_neg (by omega), if_neg (by omega), if_neg (by omega), if_pos rfl]; omega
          · rw [if_neg (by omega), if_neg (by omega)]; omega
      obtain ⟨t1, t2, t3⟩ := hto
      generalize tot b = nb at *
      rcases ha with rfl | rfl
      · have et : tot 0 = 3 := rfl
        rw [et] at CR t1
        clear et
        go_wp2_with fail
        refine CR.out.mono ?_
        rintro e w ⟨rfl, rfl⟩
        go_wp2_with fail
        refine Mrr.out.mono ?_
        rintro e w ⟨rfl, rfl⟩
        go_wp2_with fail
        refine Mrs.out.mono ?_
        rintro e w ⟨rfl, rfl⟩
        go_wp2_with fail
        refine Mro.out.mono ?_
        rintro e w ⟨rfl, rfl⟩
        go_wp2_with fail
        refine HO.out.mono ?_
        rintro e w ⟨rfl, rfl⟩
        go_wp2_with fail
        refine CO.out.mono ?_
        rintro e w ⟨rfl, rfl⟩
        go_wp2
        go_ret
        exact ⟨rfl, rfl⟩
      · have et : tot 1 = 2 := rfl
        rw [et] at CR t1
        clear et
        go_wp2_with fail
        refine CR.out.mono ?_
        rintro e w ⟨rfl, rfl⟩
        go_wp2_with fail
        refine Mrr.out.mono ?_
        rintro e w ⟨rfl, rfl⟩
        go_wp2_with fail
        refine Mrs.out.mono ?_
        rintro e w ⟨rfl, rfl⟩
        go_wp2_with fail
        refine Mro.out.mono ?_
        rintro e w ⟨rfl, rfl⟩
        go_wp2_with fail
        refine HO.out.mono ?_
        rintro e w ⟨rfl, rfl⟩
        go_wp2_with fail
        refine CO.out.mono ?_
        rintro e w ⟨rfl, rfl⟩
        go_wp2
        go_ret
        exact ⟨rfl, rfl⟩
    · have ero : decide ((a = 0 ∨ a = 1) ∧ a < b) = false := by simpa using hab
      rw [ero] at Mro
      clear ero hab CO HO
      by_cases h0 : a = 0
      · subst h0
        have et : tot 0 = 3 := rfl
        rw [et] at CR
        clear et
        go_wp2_with fail
        refine CR.out.mono ?_
        rintro e w ⟨rfl, rfl⟩
        go_wp2_with fail
        refine Mrr.out.mono ?_
        rintro e w ⟨rfl, rfl⟩
        go_wp2_with fail
        refine Mrs.out.mono ?_
        rintro e w ⟨rfl, rfl⟩
        go_wp2_with fail
        refine Mro.out.mono ?_
        rintro e w ⟨rfl, rfl⟩
        go_wp2
        go_ret
        exact ⟨rfl, rfl⟩
      · by_cases h1 : a = 1
        · subst h1
          have et : tot 1 = 2 := rfl
          rw [et] at CR
          clear et
          go_wp2_with fail
          refine CR.out.mono ?_
          rintro e w ⟨rfl, rfl⟩
          go_wp2_with fail
          refine Mrr.out.mono ?_
          rintro e w ⟨rfl, rfl⟩
          go_wp2_with fail
          refine Mrs.out.mono ?_
          rintro e w ⟨rfl, rfl⟩
          go_wp2_with fail
          refine Mro.out.mono ?_
          rintro e w ⟨rfl, rfl⟩
          go_wp2
          go_ret
          exact ⟨rfl, rfl⟩
        · have et : tot a = 0 := by unfold tot; rw [if_neg h0, if_neg h1]
          rw [et] at CR
          have t0 : (a == 0) = false := by simpa using h0
          have t1 : (a == 1) = false := by simpa using h1
          clear h0 h1 et
          go_wp2_with fail
          refine CR.out.mono ?_
          rintro e w ⟨rfl, rfl⟩
          go_wp2_with fail
          refine Mrr.out.mono ?_
          rintro e w ⟨rfl, rfl⟩
          go_wp2_with fail
          refine Mrs.out.mono ?_
          rintro e w ⟨rfl, rfl⟩
          go_wp2_with fail
          refine Mro.out.mono ?_
          rintro e w ⟨rfl, rfl⟩
          go_wp2
          go_ret
          exact ⟨rfl, rfl⟩

end Go.Proofs.Qxb6614574aDoor
