/-
  The least of a list (seat b6614944a). No Go in sight.
-/
import Derived.Test.Qxb6614944aZz
namespace Go.Proofs.Qxb6614944a
open Go.RowKit

theorem minL_append (p : Int) (a b : List Int) : minL p (a ++ b) = minL (minL p a) b := by simp [minL]
theorem minL_split (p : Int) (vs : List Int) (k : Nat) : minL (minL p (vs.take k)) (vs.drop k) = minL p vs := by
  rw [← minL_append, List.take_append_drop]
theorem minL_le (p : Int) (l : List Int) : minL p l ≤ p := by
  induction l generalizing p with
  | nil => exact Int.le_refl _
  | cons x l ih =>
    have := ih (min p x)
    show minL (min p x) l ≤ p
    omega
theorem minL_le_mem {p : Int} {l : List Int} {x : Int} (h : x ∈ l) : minL p l ≤ x := by
  induction l generalizing p with
  | nil => cases h
  | cons y l ih =>
    show minL (min p y) l ≤ x
    rcases List.mem_cons.1 h with rfl | h
    · have := minL_le (min p x) l; omega
    · exact ih h
theorem minL_mem (p : Int) (l : List Int) : minL p l = p ∨ minL p l ∈ l := by
  induction l generalizing p with
  | nil => exact .inl rfl
  | cons x l ih =>
    show minL (min p x) l = p ∨ minL (min p x) l ∈ x :: l
    rcases ih (min p x) with h | h
    · rw [h]
      by_cases hx : p ≤ x
      · left; omega
      · right
        have : min p x = x := by omega
        rw [this]; exact List.mem_cons_self
    · exact .inr (List.mem_cons_of_mem _ h)
/-- The least is what is below all and among them. -/
theorem minL_unique {p m : Int} {l : List Int} (h1 : m ≤ p) (h2 : ∀ x ∈ l, m ≤ x) (h3 : m = p ∨ m ∈ l) : minL p l = m := by
  have a1 := minL_le p l
  rcases minL_mem p l with h | h
  · rcases h3 with h3 | h3
    · omega
    · have := minL_le_mem (p := p) h3; omega
  · have := h2 _ h
    rcases h3 with h3 | h3
    · omega
    · have := minL_le_mem (p := p) h3; omega

/-- The contract at a length that is spelt otherwise. -/
theorem zz' (id nn t prop rd : Int) (ao : Option Addr) (n cap : Nat) (vs : List Int) (w : World) (hl : vs.length = n) (hs : Sl w ao vs) (hn : n ≤ 100000) :
    Calls Try.prog 6 #[.int .i64 id, .int .i64 nn, .int .i64 t, .int .i64 prop, .int .i64 rd, .slice ao n cap] w fun e w' => e = .returned (.agg #[.bool true, .int .i64 (minL prop vs), .bool true]) ∧ Below w.heap.size w w' := by
  subst hl; exact zz id nn t prop rd ao cap vs w hs hn

theorem Sl.take {w : World} {ao : Option Addr} {vs : List Int} (h : Sl w ao vs) (k : Nat) : Sl w ao (vs.take k) := fun hne => by
  obtain ⟨b, o, e, hlt, hc⟩ := h (by intro e; rw [e] at hne; simp at hne)
  refine ⟨b, o, e, hlt, fun j hj => ?_⟩
  have hj' : j < vs.length := by simp at hj; omega
  have hjk : j < k := by simp at hj; omega
  rw [hc j hj']
  simp [List.getD_eq_getElem?_getD, hjk]

theorem info3 : (Try.prog.info? 3).map (fun i => (i.zero, i.size, i.bytes)) = some (some (.int .i64 0), 1, 8) := by kernel_rfl
theorem size3 : (Try.prog.info? 3).map (·.size) = some 1 := by kernel_rfl

set_option maxHeartbeats 400000 in
theorem zzb5 (id nn t prop rd k : Int) (ao : Option Addr) (n cap : Nat) (w : World) (hn : n ≤ 9223372036854775807) :
    Calls Try.prog 5 #[.int .i64 id, .int .i64 nn, .int .i64 t, .int .i64 prop, .int .i64 rd, .slice ao n cap, .int .i64 k] w fun e w' => ∃ b, e = .returned (.bool b) ∧ w' = w := by
  go_enter Try.func5, Try.ntmps5
  go_wp2
  all_goals
    go_ret
    exact ⟨_, rfl, rfl⟩

set_option maxHeartbeats 400000 in
theorem zzb7 (id nn t prop rd k x : Int) (ao : Option Addr) (n cap : Nat) (w : World) (hn : n ≤ 9223372036854775807) :
    Calls Try.prog 7 #[.int .i64 id, .int .i64 nn, .int .i64 t, .int .i64 prop, .int .i64 rd, .slice ao n cap, .int .i64 k, .int .i64 x] w fun e w' => ∃ b, e = .returned (.bool b) ∧ w' = w := by
  go_enter Try.func7, Try.ntmps7
  go_wp2
  all_goals
    go_ret
    exact ⟨_, rfl, rfl⟩

end Go.Proofs.Qxb6614944a
