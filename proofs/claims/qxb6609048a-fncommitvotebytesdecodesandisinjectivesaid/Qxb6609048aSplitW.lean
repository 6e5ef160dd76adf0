/-
  The walk of FnCommitVoteBytesSplitsIntoChainPartAndVotePart (seat b6609048a).
-/
import Derived.Test.Qxb6609048aEnc3
import Derived.Test.Qxb6609048aEq
namespace Go.Proofs.Qxb6609048a
open Go.RowKit

theorem all_range_int : ∀ (xs ys : List Int), xs.length = ys.length → ((List.range xs.length).all fun i => xs.getD i 0 == ys.getD i 0) = decide (xs = ys)
  | [], [], _ => rfl
  | x :: xs, y :: ys, h => by
    have ih := all_range_int xs ys (by simpa using h)
    rw [List.length_cons, List.range_succ_eq_map, List.all_cons, List.all_map]
    simp only [List.getD_cons_zero, Function.comp_def, List.getD_cons_succ, ih]
    by_cases h1 : x = y <;> simp [h1]
  | [], _ :: _, h => by simp at h
  | _ :: _, [], h => by simp at h

theorem sizeOf5 (w : World) : (sizeOf 5).run Try.prog w = .ok 1 w := by
  obtain ⟨i0, hi, hz0, hz1, hz2⟩ := info_parts info5
  simp [sizeOf, typeInfo, hi, hz1]

theorem array_eq (xs ys : List Int) (hx : xs.length = 32) (hy : ys.length = 32) (w : World) :
    (Op.equalIn 10000 23 (.agg (I8 xs).toArray) (.agg (I8 ys).toArray)).run Try.prog w = .ok (decide (xs = ys)) w := by
  rw [← all_range_int xs ys (hx.trans hy.symm), hx, List.range_eq_range', Op.equalIn]
  simp only [Sem.run_bind, run_underlying Try.underlying23, Result.andThen_ok, sizeOf5, Std.Legacy.Range.forIn_eq_forIn_range', Std.Legacy.Range.size, Nat.sub_zero, Nat.add_sub_cancel, Nat.div_one]
  have hl : ∀ i ∈ List.range' 0 32 1, i < 32 := fun i hi => by simpa using (List.mem_range'_1.1 hi).2
  generalize List.range' 0 32 1 = l at hl ⊢
  induction l with
  | nil => simp
  | cons i l ih =>
    have hi : i < 32 := hl i (by simp)
    have px : (part 5 (I8 xs).toArray (i * 1)).run Try.prog w = .ok (.int .u8 (xs.getD i 0)) w := by
      simp [part, isAgg, run_underlying Try.underlying5, I8, List.getElem?_eq_getElem (show i < xs.length by omega)]
    have py : (part 5 (I8 ys).toArray (i * 1)).run Try.prog w = .ok (.int .u8 (ys.getD i 0)) w := by
      simp [part, isAgg, run_underlying Try.underlying5, I8, List.getElem?_eq_getElem (show i < ys.length by omega)]
    have pe := run_equalIn_int (P := Try.prog) w 9998 5 .u8 .u8 (xs.getD i 0) (ys.getD i 0) Try.underlying5
    simp only [List.forIn_cons, Sem.run_bind, px, py, pe, Result.andThen_ok, List.all_cons]
    cases hb : (xs.getD i 0 == ys.getD i 0)
    · simp
    · simp only [Bool.not_true, Bool.false_eq_true, if_false, Sem.run_pure, Result.andThen_ok, Bool.true_and]
      exact ih fun j hj => hl j (by simp [hj])

set_option maxHeartbeats 1000000 in
theorem zzb9 (s1 s2 : ByteArray) (v1 h1 v2 h2 : Int) (z1 z2 : List Int) (w : World) (m1 : s1.size ≤ maxLen) (m2 : s2.size ≤ maxLen) :
    Calls Try.prog 9 #[.string s1, .int .u64 v1, .agg (I8 z1).toArray, .int .u64 h1, .string s2, .int .u64 v2, .agg (I8 z2).toArray, .int .u64 h2] w fun e w' => ∃ b, e = .returned (.bool b) ∧ Below w.heap.size w w' := by
  unfold maxLen at m1 m2
  go_enter Try.func9, Try.ntmps9
  go_wp2
  all_goals
    go_ret
    exact ⟨_, rfl, ((Below.refl _ _).alloc (Nat.le_refl _) _).alloc (by simp) _⟩

end Go.Proofs.Qxb6609048a
