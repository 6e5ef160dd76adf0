/-
  The walk of FnOffsetNeverFallsAndIsIndexOverRateSeconds (seat b6609144a): a rate that passes the gate.
-/
import Derived.Test.Qxb6609144aWalk3
namespace Go.Proofs.Qxb6609144a
open Go.RowKit

set_option maxHeartbeats 1000000 in
/-- The walk, each float operation by what it gives. -/
theorem core (i x m fi p want fg df a c b : Nat) (got got' : Int) (hi : i + 1 < 9223372036854775808) (w : World)
    (hb1 : ∀ t w, (binOp .mul t (.float .f64 x) (.float .f64 4652218415073722368)).run Try.prog w = .ok (.float .f64 m) w)
    (hb2 : ∀ t w, (binOp .mul t (.float .f64 fi) (.float .f64 4741671816366391296)).run Try.prog w = .ok (.float .f64 p) w)
    (hb3 : ∀ t w, (binOp .quo t (.float .f64 p) (.float .f64 x)).run Try.prog w = .ok (.float .f64 want) w)
    (hb4 : ∀ t w, (binOp .sub t (.float .f64 fg) (.float .f64 want)).run Try.prog w = .ok (.float .f64 df) w)
    (hb5 : ∀ t w, (binOp .quo t (.float .f64 want) (.float .f64 4827858800541171712)).run Try.prog w = .ok (.float .f64 c) w)
    (hb6 : ∀ t w, (binOp .add t (.float .f64 c) (.float .f64 4611686018427387904)).run Try.prog w = .ok (.float .f64 b) w)
    (h1 : floatOfInt .f64 (i : Int) = fi) (hfg : floatOfInt .f64 got = fg)
    (t1 : (FloatKind.f64.format.order m 4607182418800017408 == some .gt || FloatKind.f64.format.order m 4607182418800017408 == some .eq) = true)
    (t2 : (FloatKind.f64.format.order x 9094988921128908188 == some .lt || FloatKind.f64.format.order x 9094988921128908188 == some .eq) = true)
    (t3 : (FloatKind.f64.format.order want 4889714496069617664 == some .lt || FloatKind.f64.format.order want 4889714496069617664 == some .eq) = true)
    (t4 : (FloatKind.f64.format.order a b == some .gt) = false)
    (H5 : Hid (∀ w, Calls Try.prog 5 #[.int .i64 i, .float .f64 x] w fun e w' => e = .returned (.int .i64 got) ∧ w' = w))
    (H5' : Hid (∀ w, Calls Try.prog 5 #[.int .i64 ((i : Int) + 1), .float .f64 x] w fun e w' => e = .returned (.int .i64 got') ∧ w' = w))
    (H6 : Hid (∀ w, Calls Try.prog 6 #[.float .f64 df] w fun e w' => e = .returned (.float .f64 a) ∧ w' = w)) (hle : got ≤ got') :
    Calls Try.prog 3 #[.int .i64 i, .float .f64 x] w fun e w' => e = .returned (.bool true) ∧ Below w.heap.size w w' := by
  go_enter Try.func3, Try.ntmps3
  go_wp2_with (simp only [hb1, hb2, hb3])
  refine (H5.out _).mono ?_
  rintro e w ⟨rfl, rfl⟩
  go_wp2_with fail
  refine (H6.out _).mono ?_
  rintro e w ⟨rfl, rfl⟩
  go_wp2_with fail
  refine (H5'.out _).mono ?_
  rintro e w ⟨rfl, rfl⟩
  go_wp2
  go_ret
  exact ⟨rfl, Below.refl _ _⟩

set_option maxHeartbeats 1000000 in
/-- Beyond 8e18 the law says nothing. -/
theorem core8 (i x m fi p want : Nat) (hi : i + 1 < 9223372036854775808) (w : World)
    (hb1 : ∀ t w, (binOp .mul t (.float .f64 x) (.float .f64 4652218415073722368)).run Try.prog w = .ok (.float .f64 m) w)
    (hb2 : ∀ t w, (binOp .mul t (.float .f64 fi) (.float .f64 4741671816366391296)).run Try.prog w = .ok (.float .f64 p) w)
    (hb3 : ∀ t w, (binOp .quo t (.float .f64 p) (.float .f64 x)).run Try.prog w = .ok (.float .f64 want) w)
    (h1 : floatOfInt .f64 (i : Int) = fi)
    (t1 : (FloatKind.f64.format.order m 4607182418800017408 == some .gt || FloatKind.f64.format.order m 4607182418800017408 == some .eq) = true)
    (t2 : (FloatKind.f64.format.order x 9094988921128908188 == some .lt || FloatKind.f64.format.order x 9094988921128908188 == some .eq) = true)
    (t3 : FloatKind.f64.format.order want 4889714496069617664 = some .gt) :
    Calls Try.prog 3 #[.int .i64 i, .float .f64 x] w fun e w' => e = .returned (.bool true) ∧ Below w.heap.size w w' := by
  go_enter Try.func3, Try.ntmps3
  go_wp2_with (simp only [hb1, hb2, hb3])
  go_ret
  exact ⟨rfl, Below.refl _ _⟩

/-- A rate that passes. -/
theorem passed (i x m : Nat) (hi : i + 1 < 9223372036854775808) (hx : x < 2 ^ 64) (w : World) (hm : Ieee.double.mul x wK = some m) (hl : le300 x = true) (hg : ge1 m = true) :
    Calls Try.prog 3 #[.int .i64 i, .float .f64 x] w fun e w' => e = .returned (.bool true) ∧ Below w.heap.size w w' := by
  obtain ⟨fx, hU, hM⟩ := gate hx hl hm hg
  obtain ⟨D⟩ := road i x (by omega) fx hU hM
  obtain ⟨D'⟩ := road (i + 1) x (by omega) fx hU hM
  obtain ⟨p, want, ep, ew, fp, fw, c1, c2, c3⟩ := wanted D (by omega) fx hU hM
  have hb1 : ∀ t w, (binOp .mul t (.float .f64 x) (.float .f64 4652218415073722368)).run Try.prog w = .ok (.float .f64 m) w := fun t w => run_float_arith w .mul t .f64 x wK m hm
  have hb2 : ∀ t w, (binOp .mul t (.float .f64 D.fi) (.float .f64 4741671816366391296)).run Try.prog w = .ok (.float .f64 p) w := fun t w => run_float_arith w .mul t .f64 D.fi wG p ep
  have hb3 : ∀ t w, (binOp .quo t (.float .f64 p) (.float .f64 x)).run Try.prog w = .ok (.float .f64 want) w := fun t w => run_float_arith w .quo t .f64 p x want ew
  have h1 : floatOfInt .f64 (i : Int) = D.fi := of_int i D.fi D.hfi
  have e8 : FloatKind.f64.format.order want 4889714496069617664 = some (if V want < V w8 then .lt else if V want = V w8 then .eq else .gt) := order_pos fw fin_8
  rw [V_8] at e8
  by_cases h8 : V want ≤ 8000000000000000000 * U
  · have t3 : (FloatKind.f64.format.order want 4889714496069617664 == some .lt || FloatKind.f64.format.order want 4889714496069617664 == some .eq) = true := by
      rw [e8]
      by_cases a : V want < 8000000000000000000 * U
      · rw [if_pos a]; rfl
      · rw [if_neg a, if_pos (by omega)]; rfl
    have fit' := fits D D' hi hU c3 h8
    have mono := never_falls D D' (by have := U_pos; omega)
    have fit : V D.o < 9223372036854775808 * U := Nat.lt_of_le_of_lt mono fit'
    obtain ⟨fg, a, c, b, efg, ffg, esub, fa, hpos, ec, fc, eb, fb, hab⟩ := close D.fo fw c1 c2 h8
    have t4 : (FloatKind.f64.format.order a b == some .gt) = false := by
      have e : FloatKind.f64.format.order a b = some (if V a < V b then .lt else if V a = V b then .eq else .gt) := order_pos fa fb
      rw [e]
      by_cases h : V a < V b
      · rw [if_pos h]; rfl
      · rw [if_neg h, if_pos (by omega)]; rfl
    exact core i x m D.fi p want fg (Ieee.double.word (decide (V fg < V want)) a) a c b ((V D.o / U : Nat) : Int) ((V D'.o / U : Nat) : Int) hi w hb1 hb2 hb3
      (fun t w => run_float_arith w .sub t .f64 fg want _ esub) (fun t w => run_float_arith w .quo t .f64 want wD c ec) (fun t w => run_float_arith w .add t .f64 c w2 b eb)
      h1 (of_int _ fg efg) hg hl t3 t4 (offset5' i x _ rfl D fit) (offset5' (i + 1) x _ (by omega) D' fit') (absW _ a fa (by simpa using hpos)) (Int.ofNat_le.2 (Nat.div_le_div_right mono))
  · refine core8 i x m D.fi p want hi w hb1 hb2 hb3 h1 hg hl ?_
    rw [e8, if_neg (by omega), if_neg (by omega)]

set_option maxHeartbeats 400000 in
theorem walk3 (n : Int) (x : Nat) (w : World) (n0 : -9223372036854775808 ≤ n) (n1 : n ≤ 9223372036854775807) (hx : x < 2 ^ 64) :
    Calls Try.prog 3 #[.int .i64 n, .float .f64 x] w fun e w' => e = .returned (.bool true) ∧ Below w.heap.size w w' := by
  by_cases hn : n < 0
  · go_enter Try.func3, Try.ntmps3
    go_wp2
    go_ret
    exact ⟨rfl, Below.refl _ _⟩
  by_cases hm : n = 9223372036854775807
  · have hw : wrap64 (n + 1) < 0 := by unfold wrap64; omega
    clear hm n0 n1 hx
    go_enter Try.func3, Try.ntmps3
    go_wp2
    go_ret
    exact ⟨rfl, Below.refl _ _⟩
  obtain ⟨i, rfl⟩ := Int.eq_ofNat_of_zero_le (show 0 ≤ n by omega)
  have hi : i + 1 < 9223372036854775808 := by omega
  show Calls Try.prog 3 #[.int .i64 (i : Int), .float .f64 x] w _
  by_cases hg : ∃ m, Ieee.double.mul x wK = some m ∧ le300 x = true ∧ ge1 m = true
  · obtain ⟨m, a, b, c⟩ := hg
    exact passed i x m hi hx w a b c
  · refine barred i x hi w (fun m h h' => hg ⟨m, h, h'⟩) (fun h => ?_)
    cases hl : le300 x with
    | false => rfl
    | true =>
      obtain ⟨m, hm'⟩ := mul_some hx hl
      rw [h] at hm'
      cases hm'

end Go.Proofs.Qxb6609144a
