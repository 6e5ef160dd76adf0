/-
  The walk of FnCommitVoteBytesSplitsIntoChainPartAndVotePart (seat b6609048a), the law itself.
-/
import Derived.Test.Qxb6609048aSplitW
namespace Go.Proofs.Qxb6609048a
open Go.RowKit

theorem str_beq (s t : ByteArray) : (s.toList == t.toList) = decide (s = t) := by
  have h : s.toList = t.toList ↔ s = t := by
    rw [ByteArray.toList_eq, ByteArray.toList_eq]
    constructor
    · intro h
      cases s; cases t
      simp only [ByteArray.mk.injEq]
      exact Array.toList_inj.1 h
    · intro h; rw [h]
  rw [Bool.eq_iff_iff]
  simp [h]

/-- A whole array loaded by an operation whose guard says yes. -/
theorem wpList_load_row' {P : Program} {ops : Array Oper} {rest : List Oper} {o : Oper} {a : Act} {w : World} {Q : Exit → Act → World → Prop} (hgd : Region.wanted o (yielded ops a.tmps) = true) (ty : TypeId) (x : Operand) (ho : o.op = .load ty x)
    (g : Nat) (hx : a.eval x = .pointer (some ⟨g, 0, none⟩)) (t : TypeId) (cs : Array Value) (fr : Nat × Nat) (d : TypeDesc) (hg : w.heap[g]? = some (.cells cs t fr))
    (hu : P.underlying ty = some d) (hd : (match d with | .struct _ | .array _ _ => true | _ => false) = true) (hi : (P.info? ty).map (·.size) = some cs.size)
    (h : wpList P ops Q rest (a.put o.dst (.agg cs)) w) : wpList P ops Q (o :: rest) a w :=
  BigFrame.wpList_want hgd fun _ hK => wp_load_row ty x ho g hx t cs fr d hg hu hd hi (hK _ _ h)

theorem info23 : (Try.prog.info? 23).map (·.size) = some 32 := by kernel_rfl

set_option maxHeartbeats 1000000 in
set_option maxRecDepth 100000 in
theorem split_walk (s1 s2 : ByteArray) (v1 h1 v2 h2 : Int) (z1 z2 : List Int) (w : World) (m1 : s1.size ≤ maxLen) (m2 : s2.size ≤ maxLen)
    (a0 : 0 ≤ v1) (a1 : v1 ≤ 18446744073709551615) (a2 : 0 ≤ h1) (a3 : h1 ≤ 18446744073709551615) (b0 : 0 ≤ v2) (b1 : v2 ≤ 18446744073709551615) (b2 : 0 ≤ h2) (b3 : h2 ≤ 18446744073709551615) (l1 : z1.length = 32) (l2 : z2.length = 32) :
    Calls Try.prog 4 #[.string s1, .int .u64 v1, .agg (I8 z1).toArray, .int .u64 h1, .string s2, .int .u64 v2, .agg (I8 z2).toArray, .int .u64 h2] w fun e w' => e = .returned (.bool true) ∧ Below w.heap.size w w' := by
  have I1 : Hid ((Try.prog.info? 23).map (·.size) = some (I8 z1).toArray.size) := by show _ = _; rw [info23]; simp [I8_length, l1]
  have I2 : Hid ((Try.prog.info? 23).map (·.size) = some (I8 z2).toArray.size) := by show _ = _; rw [info23]; simp [I8_length, l2]
  have M1 : s1.size ≤ 9223372036854775807 := m1
  have M2 : s2.size ≤ 9223372036854775807 := m2
  have X1 : Hid (((w.alloc (.cells (I8 z1).toArray 23)).alloc (.cells (I8 z2).toArray 23)).heap[w.heap.size]? = some (.cells (I8 z1).toArray 23 (0, 0))) := by
    show _ = _; rw [Below.heap_alloc _ _ _ (by simp)]; exact heap_alloc_new w _
  have X2 : Hid (((w.alloc (.cells (I8 z1).toArray 23)).alloc (.cells (I8 z2).toArray 23)).heap[w.heap.size + 1]? = some (.cells (I8 z2).toArray 23 (0, 0))) := by
    show _ = _; have := heap_alloc_new (w.alloc (.cells (I8 z1).toArray 23)) (.cells (I8 z2).toArray 23); rwa [World.size_alloc] at this
  go_enter Try.func4, Try.ntmps4
  go_wp2_with (first | (refine wpList_load_row rfl 23 (.tmp 10) rfl w.heap.size rfl 23 (I8 z1).toArray (0, 0) _ X1.out Try.underlying23 rfl I1.out ?_) | (refine wpList_load_row rfl 23 (.tmp 14) rfl (w.heap.size + 1) rfl 23 (I8 z2).toArray (0, 0) _ X2.out Try.underlying23 rfl I2.out ?_))
  refine (zzb9 s1 s2 v1 h1 v2 h2 z1 z2 _ m1 m2).mono ?_
  rintro e w1 ⟨b, rfl, hb1⟩
  cases b
  · go_wp2
    go_ret
    exact ⟨rfl, (((Below.refl _ _).alloc (Nat.le_refl _) _).alloc (by simp) _).trans (hb1.mono (by simp; omega))⟩
  have B1 : Below w.heap.size w w1 := (((Below.refl _ _).alloc (Nat.le_refl _) _).alloc (by simp) _).trans (hb1.mono (by simp; omega))
  have Y1 : Hid (w1.heap[w.heap.size]? = some (.cells (I8 z1).toArray 23 (0, 0))) := (hb1.block _ (by simp; omega)).trans X1.out
  have Y2 : Hid (w1.heap[w.heap.size + 1]? = some (.cells (I8 z2).toArray 23 (0, 0))) := (hb1.block _ (by simp)).trans X2.out
  have S1 : w.heap.size + 1 < w1.heap.size := lt_of_block Y2.out
  clear X1 X2 hb1
  by_cases hs1 : s1.size ≤ 524288
  case neg =>
    go_wp2
    go_ret
    exact ⟨rfl, B1⟩
  by_cases hs2 : s2.size ≤ 524288
  case neg =>
    go_wp2
    go_ret
    exact ⟨rfl, B1⟩
  go_wp2_with (refine wpList_load_row rfl 23 (.tmp 10) rfl w.heap.size rfl 23 (I8 z1).toArray (0, 0) _ Y1.out Try.underlying23 rfl I1.out ?_)
  refine (zz s1 v1 z1 h1 _ (by omega) a0 a1 l1 a2 a3).mono ?_
  rintro e w2 ⟨g1, cap1, rfl, hg1, hg1', hc1, hm1, hr1, hb2⟩
  have B2 := B1.trans (hb2.mono (by omega))
  have Z1 : Hid (w2.heap[w.heap.size]? = some (.cells (I8 z1).toArray 23 (0, 0))) := (hb2.block _ (by omega)).trans Y1.out
  have Z2 : Hid (w2.heap[w.heap.size + 1]? = some (.cells (I8 z2).toArray 23 (0, 0))) := (hb2.block _ (by omega)).trans Y2.out
  have S2 : w.heap.size + 1 < w2.heap.size := lt_of_block Z2.out
  have HR1 : Hid (Row w2 g1 (encL (sb s1) v1 z1 h1)) := hr1
  clear Y1 Y2 hb2 hr1
  go_wp2_with (refine wpList_load_row rfl 23 (.tmp 14) rfl (w.heap.size + 1) rfl 23 (I8 z2).toArray (0, 0) _ Z2.out Try.underlying23 rfl I2.out ?_)
  refine (zz s2 v2 z2 h2 _ (by omega) b0 b1 l2 b2 b3).mono ?_
  rintro e w3 ⟨g2, cap2, rfl, hg2, hg2', hc2, hm2, hr2, hb3⟩
  have B3 := B2.trans (hb3.mono (by omega))
  have V1 : Hid (w3.heap[w.heap.size]? = some (.cells (I8 z1).toArray 23 (0, 0))) := (hb3.block _ (by omega)).trans Z1.out
  have V2 : Hid (w3.heap[w.heap.size + 1]? = some (.cells (I8 z2).toArray 23 (0, 0))) := (hb3.block _ (by omega)).trans Z2.out
  have HR2 : Hid (Row w3 g2 (encL (sb s2) v2 z2 h2)) := hr2
  have HQ1 : Hid (Row w3 g1 (encL (sb s1) v1 z1 h1)) := fun j hj => (hb3.cell hg1').trans (HR1.out j hj)
  clear Z1 Z2 hb3 hr2 B1 B2 HR1
  have hM1 : cap1 ≤ 9223372036854775807 := hm1
  have hM2 : cap2 ≤ 9223372036854775807 := hm2
  clear hm1 hm2 m1 m2 M1 M2
  have sl1 := sb_length s1
  have sl2 := sb_length s2
  have CH : Hid (∀ n, Calls Try.prog 8 #[.slice (some ⟨g1, 0, none⟩) (86 + s1.size - 48) cap1, .slice (some ⟨g2, 0, none⟩) (86 + s2.size - 48) cap2] (w3.drewN n) fun e w'' => e = .returned (.bool (s1.toList == s2.toList)) ∧ ∃ m, w'' = (w3.drewN n).drewN m) := by
    intro n
    refine (bytesEq g1 0 _ cap1 g2 0 _ cap2 (headL (sb s1)) (headL (sb s2)) (w3.drewN n) (by rw [headL_length]; omega) (by rw [headL_length]; omega) ?_ ?_ (by omega) (by omega)).mono ?_
    · intro j hj
      have hj' := hj; rw [headL_length] at hj'
      rw [Nat.zero_add, World.cell?_drewN, HQ1.out j (by rw [encL_length _ _ _ _ l1]; omega), enc_head _ _ _ _ _ hj]
    · intro j hj
      have hj' := hj; rw [headL_length] at hj'
      rw [Nat.zero_add, World.cell?_drewN, HR2.out j (by rw [encL_length _ _ _ _ l2]; omega), enc_head _ _ _ _ _ hj]
    · rintro e w' ⟨rfl, hw⟩
      refine ⟨?_, hw⟩
      congr 2
      rw [str_beq]
      simp only [headL_inj, sb_inj]
  obtain ⟨T, hT0⟩ : ∃ T : Bool, T = decide (v1 = v2 ∧ z1 = z2 ∧ h1 = h2) := ⟨_, rfl⟩
  have hT : Hid (T = decide (v1 = v2 ∧ z1 = z2 ∧ h1 = h2)) := hT0
  clear hT0
  have CT : Hid (∀ n m, Calls Try.prog 8 #[.slice (some ⟨g1, 86 + s1.size - 48, none⟩) (86 + s1.size - (86 + s1.size - 48)) (cap1 - (86 + s1.size - 48)), .slice (some ⟨g2, 86 + s2.size - 48, none⟩) (86 + s2.size - (86 + s2.size - 48)) (cap2 - (86 + s2.size - 48))] (w3.drewN (n + m)) fun e w'' => e = .returned (.bool T) ∧ ∃ k, w'' = w3.drewN (n + k)) := by
    intro n m
    refine (bytesEq g1 _ _ _ g2 _ _ _ (tailL v1 z1 h1) (tailL v2 z2 h2) (w3.drewN (n + m)) (by rw [tailL_length _ _ _ l1]; omega) (by rw [tailL_length _ _ _ l2]; omega) ?_ ?_ (by omega) (by omega)).mono ?_
    · intro j hj
      rw [tailL_length _ _ _ l1] at hj
      rw [World.cell?_drewN, show 86 + s1.size - 48 + j = 38 + (sb s1).length + j by omega, HQ1.out _ (by rw [encL_length _ _ _ _ l1]; omega), enc_tail]
    · intro j hj
      rw [tailL_length _ _ _ l2] at hj
      rw [World.cell?_drewN, show 86 + s2.size - 48 + j = 38 + (sb s2).length + j by omega, HR2.out _ (by rw [encL_length _ _ _ _ l2]; omega), enc_tail]
    · rintro e w' ⟨rfl, k, rfl⟩
      refine ⟨?_, m + k, by rw [World.drewN_drewN, Nat.add_assoc]⟩
      rw [hT.out]
      congr 2
      simp only [tailL_inj a0 a1 a2 a3 b0 b1 b2 b3 l1 l2]
  clear sl1 sl2
  go_wp2
  go_quiet ((go_at_call 8; exact Calls.quiet_of (CH.out _)))
  go_wp2
  go_quiet ((go_at_call 8; exact CT.out _ _))
  clear CT CH
  go_wp2
  have W1 : Hid (∀ k, k < 32 → w3.cell? ⟨w.heap.size, k, none⟩ = some (.int .u8 (z1.getD k 0))) := fun k hk => by
    rw [cell_of_row _ _ k _ _ _ V1.out]; simp [I8, l1, hk]
  have W2 : Hid (∀ k, k < 32 → w3.cell? ⟨w.heap.size + 1, k, none⟩ = some (.int .u8 (z2.getD k 0))) := fun k hk => by
    rw [cell_of_row _ _ k _ _ _ V2.out]; simp [I8, l2, hk]
  have P1 : Hid (∀ k, k < 32 → w3.cell? ⟨g1, 86 + s1.size - 40 + k, none⟩ = some (.int .u8 (z1.getD k 0))) := fun k hk => by
    have sl1 := sb_length s1
    rw [show 86 + s1.size - 40 + k = 38 + (sb s1).length + (8 + k) by omega, HQ1.out _ (by rw [encL_length _ _ _ _ l1]; omega), enc_tail, tail_block _ _ _ _ l1 hk]
  have P2 : Hid (∀ k, k < 32 → w3.cell? ⟨g2, 86 + s2.size - 40 + k, none⟩ = some (.int .u8 (z2.getD k 0))) := fun k hk => by
    have sl2 := sb_length s2
    rw [show 86 + s2.size - 40 + k = 38 + (sb s2).length + (8 + k) by omega, HR2.out _ (by rw [encL_length _ _ _ _ l2]; omega), enc_tail, tail_block _ _ _ _ l2 hk]
  go_loopw [23, 24] (fun t i wr => ∃ k q : Nat, k ≤ 32 ∧ i = .int .i64 k ∧ t = .bool true ∧ wr = w3.drewN q) (fun _ i _ => 32 - (intOf i).toNat)
  case atStart => exact ⟨0, _, Nat.zero_le _, rfl, rfl, World.drewN_drewN _ _ _⟩
  case round =>
    obtain ⟨k, q, hk, rfl, rfl, rfl⟩ := hrel
    by_cases hlt : k < 32
    · obtain ⟨x, hx⟩ : ∃ x, x = z1.getD k 0 := ⟨_, rfl⟩
      obtain ⟨y, hy⟩ : ∃ y, y = z2.getD k 0 := ⟨_, rfl⟩
      have c1 := W1.out k hlt
      have c2 := W2.out k hlt
      have c3 := P1.out k hlt
      have c4 := P2.out k hlt
      rw [← hx] at c1 c3
      rw [← hy] at c2 c4
      clear hx hy
      go_wp2
      go_quiet (fail)
      go_wp2
      go_roundw
      case rel => exact ⟨k + 1, _, by omega, by go_num, rfl, rfl⟩
      case measure => simp [intOf]; omega
    · clear W1 W2 P1 P2 HR2 HQ1
      obtain ⟨E, hE0⟩ : ∃ E : Bool, E = decide (z1 = z2) := ⟨_, rfl⟩
      have hE : Hid (E = decide (z1 = z2)) := hE0
      have hAE : ∀ w, (Op.equalIn 10000 23 (.agg (I8 z1).toArray) (.agg (I8 z2).toArray)).run Try.prog w = .ok E w := fun w => by rw [hE0]; exact array_eq z1 z2 l1 l2 w
      clear hE0
      have fin : Hid (Below w.heap.size w (w3.drewN q)) := below_drewN B3 q
      have U1 : Hid ((w3.drewN q).heap[w.heap.size]? = some (.cells (I8 z1).toArray 23 (0, 0))) := V1.out
      have U2 : Hid ((w3.drewN q).heap[w.heap.size + 1]? = some (.cells (I8 z2).toArray 23 (0, 0))) := V2.out
      clear B3 V1 V2
      cases hv : (v1 == v2) with
      | false =>
        obtain rfl : T = false := by rw [hT.out]; simp at hv; simp [hv]
        go_wp2
        go_ret
        exact ⟨rfl, fin.out⟩
      | true =>
        have hv' : v1 = v2 := by simpa using hv
        cases E with
        | false =>
          obtain rfl : T = false := by rw [hT.out]; have := hE.out; simp at this; simp [this]
          clear hv'
          go_wp2_with (first | (refine wpList_load_row' rfl 23 (.tmp 10) rfl w.heap.size rfl 23 (I8 z1).toArray (0, 0) _ U1.out Try.underlying23 rfl I1.out ?_) | (refine wpList_load_row' rfl 23 (.tmp 14) rfl (w.heap.size + 1) rfl 23 (I8 z2).toArray (0, 0) _ U2.out Try.underlying23 rfl I2.out ?_))
          go_ret
          exact ⟨rfl, fin.out⟩
        | true =>
          have hz : z1 = z2 := by have := hE.out; simpa using this
          obtain rfl : T = (h1 == h2) := by rw [hT.out, Bool.eq_iff_iff]; simp [hv', hz]
          clear hv' hz
          go_wp2_with (first | (refine wpList_load_row' rfl 23 (.tmp 10) rfl w.heap.size rfl 23 (I8 z1).toArray (0, 0) _ U1.out Try.underlying23 rfl I1.out ?_) | (refine wpList_load_row' rfl 23 (.tmp 14) rfl (w.heap.size + 1) rfl 23 (I8 z2).toArray (0, 0) _ U2.out Try.underlying23 rfl I2.out ?_))
          go_ret
          exact ⟨rfl, fin.out⟩

end Go.Proofs.Qxb6609048a
