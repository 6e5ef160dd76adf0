/-
  The walk of FnOneRoundMinStepSplit at a nil slice, and its early returns (seat b6614944a).
-/
import Derived.Test.Qxb6614944aSplit
namespace Go.Proofs.Qxb6614944a
open Go.RowKit

set_option maxHeartbeats 400000 in
theorem split_early (id nn t prop rd k : Int) (ao : Option Addr) (n cap : Nat) (w : World) (hn : n ≤ 9223372036854775807) (h : 65536 < n ∨ k < 0 ∨ (n : Int) < k) :
    Calls Try.prog 3 #[.int .i64 id, .int .i64 nn, .int .i64 t, .int .i64 prop, .int .i64 rd, .slice ao n cap, .int .i64 k] w fun e w' => e = .returned (.bool true) ∧ Below w.heap.size w w' := by
  have h' : 65536 < n ∨ (n ≤ 65536 ∧ k < 0) ∨ (n ≤ 65536 ∧ 0 ≤ k ∧ (n : Int) < k) := by omega
  clear h
  rcases h' with h | ⟨h1, h⟩ | ⟨h1, h2, h⟩
  all_goals
    go_enter Try.func3, Try.ntmps3
    go_wp2_with (go_at_call 5; refine (zzb5 _ _ _ _ _ _ _ _ _ _ (by omega)).mono ?_; rintro e w ⟨b, rfl, rfl⟩; cases b)
    all_goals
      go_ret
      exact ⟨rfl, Below.refl _ _⟩

/-- The contract at the nil slice. -/
theorem zz0 (id nn t prop rd : Int) (w : World) :
    Calls Try.prog 6 #[.int .i64 id, .int .i64 nn, .int .i64 t, .int .i64 prop, .int .i64 rd, .slice none 0 0] w fun e w' => e = .returned (.agg #[.bool true, .int .i64 prop, .bool true]) ∧ Below w.heap.size w w' :=
  zz' id nn t prop rd none 0 0 [] w rfl (Sl.nil _ _ rfl) (Nat.zero_le _)

set_option maxHeartbeats 1000000 in
set_option maxRecDepth 100000 in
theorem split_nil (id nn t prop rd : Int) (w : World) :
    Calls Try.prog 3 #[.int .i64 id, .int .i64 nn, .int .i64 t, .int .i64 prop, .int .i64 rd, .slice none 0 0, .int .i64 0] w fun e w' => e = .returned (.bool true) ∧ Below w.heap.size w w' := by
  go_enter Try.func3, Try.ntmps3
  go_wp2_with (go_at_call 5; refine (zzb5 _ _ _ _ _ _ _ _ _ _ (by omega)).mono ?_; rintro e w ⟨b, rfl, rfl⟩; cases b)
  · go_ret
    exact ⟨rfl, Below.refl _ _⟩
  refine (zz0 _ _ _ _ _ _).mono ?_
  rintro e w3 ⟨rfl, hb3⟩
  have HB3 : Hid (Below w.heap.size w w3) := hb3
  clear hb3
  go_wp2_with fail
  refine (zz0 _ _ _ _ _ _).mono ?_
  rintro e w4 ⟨rfl, hb4⟩
  have O1 : Hid (Out w4 w3.heap.size prop) := (Out.new w3 prop).below hb4
  have HB4 : Hid (Below w.heap.size w w4) := (HB3.out.trans ((below_alloc w3 _).mono HB3.out.size)).trans (hb4.mono (by have := HB3.out.size; simp; omega))
  have hz4 : w3.heap.size < w4.heap.size := O1.out.lt
  have SL4 : Hid (Sl w4 (some ⟨0, 0, none⟩) []) := Sl.nil _ _ rfl
  clear hb4
  go_wp2
  go_region_with (go_at_call 6; refine (zz0 _ _ _ _ _ _).mono ?_; rintro e w5 ⟨rfl, hb5⟩; try (obtain ⟨r0, r1, r2, g0, g1, g2⟩ := res_facts ((hb5.block (w4.heap.size + 1) (by simp)).trans (res_new _ _ _))))
  all_goals
    first
      | (have R := end_one (M2 := prop) O1.out SL4.out hb5
         clear hb5
         have QB : Hid (Below w.heap.size w (w5.alloc (Obj.cells #[Value.bool true, Value.int IntKind.i64 prop, Value.bool true] 25))) := HB4.out.trans (R.2.2.2.2.mono HB4.out.size)
         generalize w5.alloc (Obj.cells #[Value.bool true, Value.int IntKind.i64 prop, Value.bool true] 25) = F at R QB ⊢
         generalize w5.heap.size = b3 at R ⊢)
      | (have R := end_two (M2 := prop) O1.out SL4.out hb5 r0 r1 r2
         clear hb5 r0 r1 r2 g0 g1 g2
         have QB : Hid (Below w.heap.size w (((w5.setCell ⟨w4.heap.size + 1, 0, none⟩ (.bool true)).setCell ⟨w4.heap.size + 1, 1, none⟩ (.int .i64 prop)).setCell ⟨w4.heap.size + 1, 2, none⟩ (.bool true))) := HB4.out.trans (R.2.2.2.2.mono HB4.out.size)
         generalize (((w5.setCell ⟨w4.heap.size + 1, 0, none⟩ (.bool true)).setCell ⟨w4.heap.size + 1, 1, none⟩ (.int .i64 prop)).setCell ⟨w4.heap.size + 1, 2, none⟩ (.bool true)) = F at R QB ⊢
         generalize w4.heap.size + 1 = b3 at R ⊢)
    obtain ⟨q1, q2, q3, q4, q5⟩ := R
    clear q4 q5
    obtain ⟨q10, q11, q12⟩ := q1
    obtain ⟨q20, q21, q22⟩ := q2
    obtain ⟨q30, q31, q32⟩ := q3
    clear O1 SL4 HB4
    generalize w3.heap.size = b1 at *
    generalize w4.heap.size = b2 at *
    go_wp2
    go_loop [20, 109] (fun f i => f = .bool true ∧ i = .int .i64 0) (fun _ _ => 0)
    case atStart => exact ⟨by simp, rfl⟩
    case round =>
      obtain ⟨rfl, rfl⟩ := hrel
      go_wp2
      go_ret
      exact ⟨rfl, QB.out⟩

end Go.Proofs.Qxb6614944a
