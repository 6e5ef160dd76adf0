/-
  The walk of FnCommitVoteBytesDecodesAndIsInjective (seat b6609048a).
-/
import Derived.Test.Qxb6609048aSplitX
import Derived.Test.Qxb6609048aDec
namespace Go.Proofs.Qxb6609048a
open Go.RowKit

set_option maxHeartbeats 1000000 in
theorem zzb5 (s1 s2 : ByteArray) (v1 h1 v2 h2 : Int) (z1 z2 : List Int) (w : World) (m1 : s1.size ≤ maxLen) (m2 : s2.size ≤ maxLen) :
    Calls Try.prog 5 #[.string s1, .int .u64 v1, .agg (I8 z1).toArray, .int .u64 h1, .string s2, .int .u64 v2, .agg (I8 z2).toArray, .int .u64 h2] w fun e w' => ∃ b, e = .returned (.bool b) ∧ Below w.heap.size w w' := by
  unfold maxLen at m1 m2
  go_enter Try.func5, Try.ntmps5
  go_wp2
  all_goals
    go_ret
    exact ⟨_, rfl, ((Below.refl _ _).alloc (Nat.le_refl _) _).alloc (by simp) _⟩

theorem encL_inj {s1 s2 : ByteArray} {v1 v2 h1 h2 : Int} {z1 z2 : List Int} (a0 : 0 ≤ v1) (a1 : v1 ≤ 18446744073709551615) (a2 : 0 ≤ h1) (a3 : h1 ≤ 18446744073709551615) (c0 : 0 ≤ v2) (c1 : v2 ≤ 18446744073709551615) (c2 : 0 ≤ h2) (c3 : h2 ≤ 18446744073709551615)
    (l1 : z1.length = 32) (l2 : z2.length = 32) : encL (sb s1) v1 z1 h1 = encL (sb s2) v2 z2 h2 ↔ s1 = s2 ∧ v1 = v2 ∧ z1 = z2 ∧ h1 = h2 := by
  constructor
  · intro h
    have hl := congrArg List.length h
    rw [encL_length _ _ _ _ l1, encL_length _ _ _ _ l2] at hl
    rw [encL_eq, encL_eq] at h
    obtain ⟨ha, hb⟩ := List.append_inj h (by rw [headL_length, headL_length]; omega)
    exact ⟨sb_inj.1 (headL_inj.1 ha), (tailL_inj a0 a1 a2 a3 c0 c1 c2 c3 l1 l2).1 hb⟩
  · rintro ⟨rfl, rfl, rfl, rfl⟩; rfl

set_option maxHeartbeats 1000000 in
set_option maxRecDepth 100000 in
theorem decode_walk (s1 s2 : ByteArray) (v1 h1 v2 h2 : Int) (z1 z2 : List Int) (w : World) (m1 : s1.size ≤ maxLen) (m2 : s2.size ≤ maxLen)
    (a0 : 0 ≤ v1) (a1 : v1 ≤ 18446744073709551615) (a2 : 0 ≤ h1) (a3 : h1 ≤ 18446744073709551615) (b0 : 0 ≤ v2) (b1 : v2 ≤ 18446744073709551615) (b2 : 0 ≤ h2) (b3 : h2 ≤ 18446744073709551615) (l1 : z1.length = 32) (l2 : z2.length = 32) :
    Calls Try.prog 3 #[.string s1, .int .u64 v1, .agg (I8 z1).toArray, .int .u64 h1, .string s2, .int .u64 v2, .agg (I8 z2).toArray, .int .u64 h2] w fun e w' => e = .returned (.bool true) ∧ Below w.heap.size w w' := by
  have I1 : Hid ((Try.prog.info? 23).map (·.size) = some (I8 z1).toArray.size) := by show _ = _; rw [info23]; simp [I8_length, l1]
  have I2 : Hid ((Try.prog.info? 23).map (·.size) = some (I8 z2).toArray.size) := by show _ = _; rw [info23]; simp [I8_length, l2]
  have M1 : s1.size ≤ 9223372036854775807 := m1
  have M2 : s2.size ≤ 9223372036854775807 := m2
  have X1 : Hid (((w.alloc (.cells (I8 z1).toArray 23)).alloc (.cells (I8 z2).toArray 23)).heap[w.heap.size]? = some (.cells (I8 z1).toArray 23 (0, 0))) := by
    show _ = _; rw [Below.heap_alloc _ _ _ (by simp)]; exact heap_alloc_new w _
  have X2 : Hid (((w.alloc (.cells (I8 z1).toArray 23)).alloc (.cells (I8 z2).toArray 23)).heap[w.heap.size + 1]? = some (.cells (I8 z2).toArray 23 (0, 0))) := by
    show _ = _; have := heap_alloc_new (w.alloc (.cells (I8 z1).toArray 23)) (.cells (I8 z2).toArray 23); rwa [World.size_alloc] at this
  go_enter Try.func3, Try.ntmps3
  go_wp2_with (first | (refine wpList_load_row rfl 23 (.tmp 10) rfl w.heap.size rfl 23 (I8 z1).toArray (0, 0) _ X1.out Try.underlying23 rfl I1.out ?_) | (refine wpList_load_row rfl 23 (.tmp 14) rfl (w.heap.size + 1) rfl 23 (I8 z2).toArray (0, 0) _ X2.out Try.underlying23 rfl I2.out ?_))
  refine (zzb5 s1 s2 v1 h1 v2 h2 z1 z2 _ m1 m2).mono ?_
  rintro e w1 ⟨b, rfl, hb1⟩
  cases b
  · go_wp2
    go_ret
    exact ⟨rfl, (((Below.refl _ _).alloc (Nat.le_refl _) _).alloc (by simp) _).trans (hb1.mono (by simp; omega))⟩
  have B1 : Below w.heap.size w w1 := (((Below.refl _ _).alloc (Nat.le_refl _) _).alloc (by simp) _).trans (hb1.mono (by simp; omega))
  have Y1 : Hid (w1.heap[w.heap.size]? = some (.cells (I8 z1).toArray 23 (0, 0))) := (hb1.block _ (by simp; omega)).trans X1.out
  have Y2 : Hid (w1.heap[w.heap.size + 1]? = some (.cells (I8 z2).toArray 23 (0, 0))) := (hb1.block _ (by simp)).trans X2.out
  have S1 : w.heap.size + 1 < w1.heap.size := lt_of_block Y2.out
  clear X1 X2 hb1
  by_cases hs1 : s1.size ≤ 524288
  case neg =>
    go_wp2
    go_ret
    exact ⟨rfl, B1⟩
  by_cases hs2 : s2.size ≤ 524288
  case neg =>
    go_wp2
    go_ret
    exact ⟨rfl, B1⟩
  go_wp2_with (refine wpList_load_row rfl 23 (.tmp 10) rfl w.heap.size rfl 23 (I8 z1).toArray (0, 0) _ Y1.out Try.underlying23 rfl I1.out ?_)
  refine (zz s1 v1 z1 h1 _ (by omega) a0 a1 l1 a2 a3).mono ?_
  rintro e w2 ⟨g1, cap1, rfl, hg1, hg1', hc1, hm1, hr1, hb2⟩
  have B2 := B1.trans (hb2.mono (by omega))
  have Z1 : Hid (w2.heap[w.heap.size]? = some (.cells (I8 z1).toArray 23 (0, 0))) := (hb2.block _ (by omega)).trans Y1.out
  have Z2 : Hid (w2.heap[w.heap.size + 1]? = some (.cells (I8 z2).toArray 23 (0, 0))) := (hb2.block _ (by omega)).trans Y2.out
  have S2 : w.heap.size + 1 < w2.heap.size := lt_of_block Z2.out
  have HR1 : Hid (Row w2 g1 (encL (sb s1) v1 z1 h1)) := hr1
  clear Y1 Y2 hb2 hr1
  go_wp2_with (refine wpList_load_row rfl 23 (.tmp 14) rfl (w.heap.size + 1) rfl 23 (I8 z2).toArray (0, 0) _ Z2.out Try.underlying23 rfl I2.out ?_)
  refine (zz s2 v2 z2 h2 _ (by omega) b0 b1 l2 b2 b3).mono ?_
  rintro e w3 ⟨g2, cap2, rfl, hg2, hg2', hc2, hm2, hr2, hb3⟩
  have B3 := B2.trans (hb3.mono (by omega))
  have V1 : Hid (w3.heap[w.heap.size]? = some (.cells (I8 z1).toArray 23 (0, 0))) := (hb3.block _ (by omega)).trans Z1.out
  have V2 : Hid (w3.heap[w.heap.size + 1]? = some (.cells (I8 z2).toArray 23 (0, 0))) := (hb3.block _ (by omega)).trans Z2.out
  have HR2 : Hid (Row w3 g2 (encL (sb s2) v2 z2 h2)) := hr2
  have HQ1 : Hid (Row w3 g1 (encL (sb s1) v1 z1 h1)) := fun j hj => (hb3.cell hg1').trans (HR1.out j hj)
  clear Z1 Z2 hb3 hr2 B1 B2 HR1
  have hM1 : cap1 ≤ 9223372036854775807 := hm1
  have hM2 : cap2 ≤ 9223372036854775807 := hm2
  clear hm1 hm2 m1 m2 M1 M2
  have S3 : w.heap.size + 1 < w3.heap.size := lt_of_block V2.out
  go_wp2_with (first | (refine wpList_load_row' rfl 23 (.tmp 10) rfl w.heap.size rfl 23 (I8 z1).toArray (0, 0) _ V1.out Try.underlying23 rfl I1.out ?_))
  refine (decodes g1 cap1 s1 v1 z1 h1 _ hs1 a0 a1 l1 a2 a3 HQ1.out (by omega) hc1 hM1).mono ?_
  rintro e w4 ⟨rfl, hb4⟩
  have B4 := B3.trans (hb4.mono (by omega))
  have T1 : Hid (w4.heap[w.heap.size]? = some (.cells (I8 z1).toArray 23 (0, 0))) := (hb4.block _ (by omega)).trans V1.out
  have T2 : Hid (w4.heap[w.heap.size + 1]? = some (.cells (I8 z2).toArray 23 (0, 0))) := (hb4.block _ (by omega)).trans V2.out
  have N1 : Hid (Row w4 g1 (encL (sb s1) v1 z1 h1)) := fun j hj => (hb4.cell (p := ⟨g1, j, none⟩) (show g1 < _ by omega)).trans (HQ1.out j hj)
  have N2 : Hid (Row w4 g2 (encL (sb s2) v2 z2 h2)) := fun j hj => (hb4.cell (p := ⟨g2, j, none⟩) (show g2 < _ by omega)).trans (HR2.out j hj)
  have S4 : g1 < w4.heap.size ∧ g2 < w4.heap.size := by have := hb4.size; omega
  clear V1 V2 HQ1 HR2 hb4 B3
  go_wp2_with (first | (refine wpList_load_row' rfl 23 (.tmp 14) rfl (w.heap.size + 1) rfl 23 (I8 z2).toArray (0, 0) _ T2.out Try.underlying23 rfl I2.out ?_))
  refine (decodes g2 cap2 s2 v2 z2 h2 _ hs2 b0 b1 l2 b2 b3 N2.out (by omega) hc2 hM2).mono ?_
  rintro e w5 ⟨rfl, hb5⟩
  have B5 := B4.trans (hb5.mono (by have := lt_of_block T2.out; omega))
  have U1 : Hid (w5.heap[w.heap.size]? = some (.cells (I8 z1).toArray 23 (0, 0))) := (hb5.block _ (by have := lt_of_block T2.out; omega)).trans T1.out
  have U2 : Hid (w5.heap[w.heap.size + 1]? = some (.cells (I8 z2).toArray 23 (0, 0))) := (hb5.block _ (lt_of_block T2.out)).trans T2.out
  have O1 : Hid (Row w5 g1 (encL (sb s1) v1 z1 h1)) := fun j hj => (hb5.cell (p := ⟨g1, j, none⟩) S4.1).trans (N1.out j hj)
  have O2 : Hid (Row w5 g2 (encL (sb s2) v2 z2 h2)) := fun j hj => (hb5.cell (p := ⟨g2, j, none⟩) S4.2).trans (N2.out j hj)
  clear T1 T2 N1 N2 hb5 B4
  obtain ⟨T, hT0⟩ : ∃ T : Bool, T = decide (s1 = s2 ∧ v1 = v2 ∧ z1 = z2 ∧ h1 = h2) := ⟨_, rfl⟩
  have hT : Hid (T = decide (s1 = s2 ∧ v1 = v2 ∧ z1 = z2 ∧ h1 = h2)) := hT0
  clear hT0
  have CE : Hid (Calls Try.prog 8 #[.slice (some ⟨g1, 0, none⟩) (86 + s1.size) cap1, .slice (some ⟨g2, 0, none⟩) (86 + s2.size) cap2] w5 fun e w'' => e = .returned (.bool T) ∧ ∃ m, w'' = w5.drewN m) := by
    have sl1 := sb_length s1
    have sl2 := sb_length s2
    refine (bytesEq g1 0 _ cap1 g2 0 _ cap2 (encL (sb s1) v1 z1 h1) (encL (sb s2) v2 z2 h2) w5 (by rw [encL_length _ _ _ _ l1]; omega) (by rw [encL_length _ _ _ _ l2]; omega) ?_ ?_ (by omega) (by omega)).mono ?_
    · intro j hj; rw [Nat.zero_add]; exact O1.out j hj
    · intro j hj; rw [Nat.zero_add]; exact O2.out j hj
    · rintro e w' ⟨rfl, hw⟩
      refine ⟨?_, hw⟩
      rw [hT.out]
      congr 2
      simp only [encL_inj a0 a1 a2 a3 b0 b1 b2 b3 l1 l2]
  clear O1 O2
  obtain ⟨E, hE0⟩ : ∃ E : Bool, E = decide (z1 = z2) := ⟨_, rfl⟩
  have hE : Hid (E = decide (z1 = z2)) := hE0
  have hAE : ∀ w, (Op.equalIn 10000 23 (.agg (I8 z1).toArray) (.agg (I8 z2).toArray)).run Try.prog w = .ok E w := fun w => by rw [hE0]; exact array_eq z1 z2 l1 l2 w
  clear hE0
  have fin : Hid (∀ q, Below w.heap.size w (w5.drewN q)) := fun q => below_drewN B5 q
  clear B5
  cases hs : (s1.toList == s2.toList) with
  | false =>
    obtain rfl : T = false := by rw [str_beq] at hs; rw [hT.out]; simp at hs; simp [hs]
    go_wp2_with (go_at_call 8; refine CE.out.mono ?_; rintro e w6 ⟨rfl, q, rfl⟩)
    go_ret
    exact ⟨rfl, fin.out _⟩
  | true =>
    have hs' : s1 = s2 := by rw [str_beq] at hs; simpa using hs
    cases hv : (v1 == v2) with
    | false =>
      obtain rfl : T = false := by rw [hT.out]; simp at hv; simp [hv]
      clear hs'
      go_wp2_with (go_at_call 8; refine CE.out.mono ?_; rintro e w6 ⟨rfl, q, rfl⟩)
      go_ret
      exact ⟨rfl, fin.out _⟩
    | true =>
      have hv' : v1 = v2 := by simpa using hv
      cases E with
      | false =>
        obtain rfl : T = false := by rw [hT.out]; have := hE.out; simp at this; simp [this]
        clear hv' hs'
        go_wp2_with (first | (refine wpList_load_row' rfl 23 (.tmp 10) rfl w.heap.size rfl 23 (I8 z1).toArray (0, 0) _ U1.out Try.underlying23 rfl I1.out ?_) | (refine wpList_load_row' rfl 23 (.tmp 14) rfl (w.heap.size + 1) rfl 23 (I8 z2).toArray (0, 0) _ U2.out Try.underlying23 rfl I2.out ?_) | (go_at_call 8; refine CE.out.mono ?_; rintro e w6 ⟨rfl, q, rfl⟩))
        go_ret
        exact ⟨rfl, fin.out _⟩
      | true =>
        have hz : z1 = z2 := by have := hE.out; simpa using this
        obtain rfl : T = (h1 == h2) := by rw [hT.out, Bool.eq_iff_iff]; simp [hv', hz, hs']
        clear hv' hz hs'
        go_wp2_with (first | (refine wpList_load_row' rfl 23 (.tmp 10) rfl w.heap.size rfl 23 (I8 z1).toArray (0, 0) _ U1.out Try.underlying23 rfl I1.out ?_) | (refine wpList_load_row' rfl 23 (.tmp 14) rfl (w.heap.size + 1) rfl 23 (I8 z2).toArray (0, 0) _ U2.out Try.underlying23 rfl I2.out ?_) | (go_at_call 8; refine CE.out.mono ?_; rintro e w6 ⟨rfl, q, rfl⟩))
        go_ret
        exact ⟨rfl, fin.out _⟩

end Go.Proofs.Qxb6609048a
