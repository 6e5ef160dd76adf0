/-
  The walk of FnOneRoundMinStepOrderFreeInsert at a nil slice, and its early returns (seat b6614944a).
-/
import Derived.Test.Qxb6614944aIns
import Derived.Laws.AppendOwnNone
namespace Go.Proofs.Qxb6614944a
open Go.RowKit

set_option maxHeartbeats 400000 in
theorem ins_early (id nn t prop rd k x : Int) (ao : Option Addr) (n cap : Nat) (w : World) (hn : n ≤ 9223372036854775807) (h : 65536 < n ∨ k < 0 ∨ (n : Int) < k) :
    Calls Try.prog 4 #[.int .i64 id, .int .i64 nn, .int .i64 t, .int .i64 prop, .int .i64 rd, .slice ao n cap, .int .i64 k, .int .i64 x] w fun e w' => e = .returned (.bool true) ∧ Below w.heap.size w w' := by
  have h' : 65536 < n ∨ (n ≤ 65536 ∧ k < 0) ∨ (n ≤ 65536 ∧ 0 ≤ k ∧ (n : Int) < k) := by omega
  clear h
  rcases h' with h | ⟨h1, h⟩ | ⟨h1, h2, h⟩
  all_goals
    go_enter Try.func4, Try.ntmps4
    go_wp2_with (go_at_call 7; refine (zzb7 _ _ _ _ _ _ _ _ _ _ _ (by omega)).mono ?_; rintro e w ⟨b, rfl, rfl⟩; cases b)
    all_goals
      go_ret
      exact ⟨rfl, Below.refl _ _⟩

/-- The contract at an empty slice, and at a slice of one. -/
theorem zz00 (id nn t prop rd : Int) (ao : Option Addr) (cap : Nat) (w : World) :
    Calls Try.prog 6 #[.int .i64 id, .int .i64 nn, .int .i64 t, .int .i64 prop, .int .i64 rd, .slice ao 0 cap] w fun e w' => e = .returned (.agg #[.bool true, .int .i64 prop, .bool true]) ∧ Below w.heap.size w w' :=
  zz' id nn t prop rd ao 0 cap [] w rfl (Sl.nil _ _ rfl) (Nat.zero_le _)
theorem zz01 (id nn t prop rd x : Int) (ao : Option Addr) (cap : Nat) (w : World) (h : Sl w ao [x]) :
    Calls Try.prog 6 #[.int .i64 id, .int .i64 nn, .int .i64 t, .int .i64 prop, .int .i64 rd, .slice ao 1 cap] w fun e w' => e = .returned (.agg #[.bool true, .int .i64 (min prop x), .bool true]) ∧ Below w.heap.size w w' :=
  zz' id nn t prop rd ao 1 cap [x] w rfl h (by omega)

set_option maxHeartbeats 1000000 in
set_option maxRecDepth 100000 in
theorem ins_nil (id nn t prop rd x : Int) (w : World) :
    Calls Try.prog 4 #[.int .i64 id, .int .i64 nn, .int .i64 t, .int .i64 prop, .int .i64 rd, .slice none 0 0, .int .i64 0, .int .i64 x] w fun e w' => e = .returned (.bool true) ∧ Below w.heap.size w w' := by
  obtain ⟨i0, hi, hz0, hz1, hz2⟩ := info_parts info3
  obtain ⟨R, hR⟩ : ∃ R, R = w.heap.size := ⟨_, rfl⟩
  have HR : Hid (R = w.heap.size) := hR
  clear hR
  go_enter Try.func4, Try.ntmps4
  go_wp2_with (first
    | (go_at_call 7; refine (zzb7 _ _ _ _ _ _ _ _ _ _ _ (by omega)).mono ?_; rintro e w ⟨b, rfl, rfl⟩; cases b)
    | (at_make; refine wpList_make_own _ rfl (.const (.int .i64 0)) (.tmp 57) 22 rfl R 3 i0 _ 1 Try.underlying22 hi hz0 hz1 .i64 .i64 _ 0 rfl rfl rfl (by rw [hz2]; omega) (by unfold maxLen; omega) (Nat.le_of_eq HR.out) ?_
       intro W3 hown3 hgrow3
       rw [← HR.out] at hown3 ⊢
       have hB3 : Hid (Below R w W3) := (Below.refl _ _).grown hgrow3 (Nat.le_of_eq HR.out) (fun _ h => by cases h)
       have hz3 : R ≤ W3.heap.size := Nat.le_trans (Nat.le_of_eq HR.out) hgrow3.size
       obtain ⟨X, hX⟩ : ∃ X, X = W3.heap.size := ⟨_, rfl⟩
       have HX : Hid (X = W3.heap.size) := hX
       rw [← hX] at hz3
       clear hgrow3 hX)
    | (at_builtin; refine wpList_append_own_none rfl (.tmp 59) (.tmp 62) 22 rfl R 3 i0 1 Try.underlying22 hi _ 0 [] rfl hown3 rfl ?_)
    | (at_builtin; refine wpList_append_own_none rfl (.tmp 64) (.tmp 67) 22 rfl R 3 i0 1 Try.underlying22 hi _ 0 [] rfl hown3 rfl ?_)
    | (at_make; refine wpList_make_own _ rfl (.const (.int .i64 0)) (.tmp 70) 22 rfl X 3 i0 _ 1 Try.underlying22 hi hz0 hz1 .i64 .i64 _ 1 rfl rfl (by omega) (by rw [hz2]; omega) (by unfold maxLen; omega) (Nat.le_of_eq HX.out) ?_
       intro W6 hown6 hgrow6
       rw [← HX.out] at hown6 ⊢
       have hB6 : Hid (Below X W3 W6) := (Below.refl _ _).grown hgrow6 (Nat.le_of_eq HX.out) (fun _ h => by cases h)
       have hz6 : X ≤ W6.heap.size := Nat.le_trans (Nat.le_of_eq HX.out) hgrow6.size
       clear hgrow6)
    | (at_builtin; refine wpList_append_own_none rfl (.tmp 72) (.tmp 75) 22 rfl X 3 i0 1 Try.underlying22 hi _ 0 [] rfl hown6 rfl ?_)
    | (at_builtin; refine wpList_append_fits _ rfl (.tmp 77) (.tmp 79) 22 rfl X 3 i0 1 Try.underlying22 hi hz1 X 0 1 [] rfl (hown6.alloc _) ⟨W6.heap.size, 0, none⟩ 1 1 [.int .i64 x] rfl rfl (cell_one_new _ _ _) (I64_one [x]) (by omega) ?_
       intro W8 hown8 hgrow8
       have hB8 : Hid (Below X W3 W8) := grow_below (hB6.out.alloc hz6 _) hgrow8 (by simp; omega) (Nat.le_refl _)
       rw [Nat.zero_add, List.nil_append] at hown8
       rw [Nat.zero_add]
       have SX : Hid (Sl W8 (some ⟨X, 0, none⟩) [x]) := sl_of_own hown8 rfl
       clear hown6 hgrow8 hB6 hz6)
    | (at_builtin; refine wpList_append_own_none rfl (.tmp 81) (.tmp 84) 22 rfl X 3 i0 1 Try.underlying22 hi _ 1 _ rfl hown8 rfl ?_))
  · go_ret
    exact ⟨rfl, Below.refl _ _⟩
  have HB8 : Hid (Below w.heap.size w W8) := by
    have h := hB3.out.trans (hB8.out.mono hz3)
    rw [HR.out] at h
    exact h
  clear hown3 hown8 hB3 hB8 HR HX hi hz0 hz1 hz2
  refine (zz00 _ _ _ _ _ _ _ _).mono ?_
  rintro e w3 ⟨rfl, hb3⟩
  have HB3 : Hid (Below w.heap.size w w3) := HB8.out.trans (hb3.mono HB8.out.size)
  have SX3 : Hid (Sl w3 (some ⟨X, 0, none⟩) [x]) := SX.out.below hb3
  clear hb3 SX HB8
  go_wp2_with fail
  refine (zz00 _ _ _ _ _ _ _ _).mono ?_
  rintro e w4 ⟨rfl, hb4⟩
  have O1 : Hid (Out w4 w3.heap.size prop) := (Out.new w3 prop).below hb4
  have SX4 : Hid (Sl w4 (some ⟨X, 0, none⟩) [x]) := (SX3.out.below (below_alloc _ _)).below hb4
  have HB4 : Hid (Below w.heap.size w w4) := (HB3.out.trans ((below_alloc w3 _).mono HB3.out.size)).trans (hb4.mono (by have := HB3.out.size; simp; omega))
  clear hb4 SX3 HB3
  go_wp2_with fail
  refine (zz01 _ _ _ _ _ x _ _ _ (SX4.out.below (below_alloc _ _))).mono ?_
  rintro e w5 ⟨rfl, hb5⟩
  obtain ⟨N, hN⟩ : ∃ N, N = min prop x := ⟨_, rfl⟩
  rw [← hN]
  have O1' : Hid (Out w5 w3.heap.size prop) := (O1.out.below (below_alloc _ _)).below hb5
  have O2 : Hid (Out w5 w4.heap.size prop) := (Out.new w4 prop).below hb5
  have HB5 : Hid (Below w.heap.size w (w5.alloc (Obj.cells #[Value.bool true, Value.int IntKind.i64 N, Value.bool true] 25))) :=
    ((HB4.out.trans ((below_alloc w4 _).mono HB4.out.size)).trans (hb5.mono (by have := HB4.out.size; simp; omega))).alloc (by have := HB4.out.size; have := hb5.size; simp at this; omega) _
  have q1 := O1'.out.below (below_alloc w5 (Obj.cells #[Value.bool true, Value.int IntKind.i64 N, Value.bool true] 25))
  have q2 := O2.out.below (below_alloc w5 (Obj.cells #[Value.bool true, Value.int IntKind.i64 N, Value.bool true] 25))
  have q3 := Out.new w5 N
  clear hb5 O1 O1' O2 SX4 HB4
  obtain ⟨q10, q11, q12⟩ := q1
  obtain ⟨q20, q21, q22⟩ := q2
  obtain ⟨q30, q31, q32⟩ := q3
  have hcase : (x < prop ∧ N = x) ∨ (prop ≤ x ∧ N = prop) := by omega
  clear hN
  rcases hcase with ⟨hx, rfl⟩ | ⟨hx, rfl⟩
  all_goals
    go_wp2
    go_ret
    exact ⟨rfl, HB5.out⟩

end Go.Proofs.Qxb6614944a
