/-
  cvDecodesTo (seat b6609048a): it takes what commitVoteBytes has laid.
-/
import Derived.Test.Qxb6609048aRead
import Derived.Test.Qxb6609048aEnc3
namespace Go.Proofs.Qxb6609048a
open Go.RowKit

theorem tag2_size : (⟨#[113, 117, 111, 114, 117, 109, 108, 105, 110, 101, 47, 99, 111, 109, 109, 105, 116, 45, 118, 111, 116, 101]⟩ : ByteArray).size = 22 := by kernel_rfl
theorem tag2_sb : sb (⟨#[113, 117, 111, 114, 117, 109, 108, 105, 110, 101, 47, 99, 111, 109, 109, 105, 116, 45, 118, 111, 116, 101]⟩ : ByteArray) = tagL := by kernel_rfl

/-- A part of a row. -/
theorem Row.part {w : World} {g : Nat} {a b c : List Int} (h : Row w g (a ++ b ++ c)) : RowAt w g a.length b := fun j hj => by
  rw [h (a.length + j) (by simp; omega)]
  simp only [List.getD_eq_getElem?_getD]
  rw [List.getElem?_append_left (by simp; omega), List.getElem?_append_right (by omega)]
  congr 4; omega
theorem Row.drewN {w : World} {g : Nat} {l : List Int} (h : Row w g l) (n : Nat) : Row (w.drewN n) g l := fun j hj => by simpa using h j hj

set_option maxHeartbeats 1000000 in
set_option maxRecDepth 100000 in
theorem decodes (g cap : Nat) (s : ByteArray) (v : Int) (zs : List Int) (h : Int) (w : World) (hlim : s.size ≤ 524288) (v0 : 0 ≤ v) (v1 : v ≤ 18446744073709551615) (hz : zs.length = 32) (h0 : 0 ≤ h) (h1 : h ≤ 18446744073709551615)
    (hr : Row w g (encL (sb s) v zs h)) (hg : g < w.heap.size) (hcap : 86 + s.size ≤ cap) (hM : cap ≤ 9223372036854775807) :
    Calls Try.prog 7 #[.slice (some ⟨g, 0, none⟩) (86 + s.size) cap, .string s, .int .u64 v, .agg (I8 zs).toArray, .int .u64 h] w fun e w' => e = .returned (.bool true) ∧ Below w.heap.size w w' := by
  have sl := sb_length s
  have HR : Hid (Row (w.alloc (.cells (I8 zs).toArray 23)) g (encL (sb s) v zs h)) := fun j hj => (((Below.refl _ w).alloc (Nat.le_refl _) _).cell (p := ⟨g, j, none⟩) hg).trans (hr j hj)
  have C : Hid (∀ k, k < 32 → (w.alloc (.cells (I8 zs).toArray 23)).cell? ⟨w.heap.size, k, none⟩ = some (.int .u8 (zs.getD k 0))) := fun k hk => cell_new w _ 23 k _ (by simp [I8, hz, hk])
  have B0 : Hid (Below w.heap.size w (w.alloc (.cells (I8 zs).toArray 23))) := (Below.refl _ w).alloc (Nat.le_refl _) _
  clear hr
  obtain ⟨W, hW⟩ : ∃ W, W = w.alloc (.cells (I8 zs).toArray 23) := ⟨_, rfl⟩
  rw [← hW] at HR C B0
  have R1 : Hid (RowAt W g 0 (be8 22)) := by
    have := HR.out; simp only [encL, headL] at this
    exact Row.part (a := []) (b := be8 22) (c := tagL ++ be8 (sb s).length ++ sb s ++ be8 v ++ zs ++ be8 h) (by simpa using this)
  have R2 : Hid (RowAt W g 8 tagL) := by
    have := HR.out; simp only [encL, headL] at this
    exact Row.part (a := be8 22) (b := tagL) (c := be8 (sb s).length ++ sb s ++ be8 v ++ zs ++ be8 h) (by simpa using this)
  have R3 : Hid (RowAt W g 30 (be8 s.size)) := by
    have := HR.out; simp only [encL, headL] at this
    rw [← sl]
    exact Row.part (a := be8 22 ++ tagL) (b := be8 (sb s).length) (c := sb s ++ be8 v ++ zs ++ be8 h) (by simpa using this)
  have R4 : Hid (RowAt W g 38 (sb s)) := by
    have := HR.out; simp only [encL, headL] at this
    exact Row.part (a := be8 22 ++ tagL ++ be8 (sb s).length) (b := sb s) (c := be8 v ++ zs ++ be8 h) (by simpa using this)
  have R5 : Hid (RowAt W g (38 + s.size) (be8 v)) := by
    have := HR.out; simp only [encL] at this
    have := Row.part (a := headL (sb s)) (b := be8 v) (c := zs ++ be8 h) (by simpa using this)
    rwa [headL_length, sl] at this
  have R6 : Hid (RowAt W g (46 + s.size) zs) := by
    have := HR.out; simp only [encL] at this
    have := Row.part (a := headL (sb s) ++ be8 v) (b := zs) (c := be8 h) this
    rwa [List.length_append, headL_length, be8_length, sl, show 38 + s.size + 8 = 46 + s.size by omega] at this
  have R7 : Hid (RowAt W g (78 + s.size) (be8 h)) := by
    have := HR.out; simp only [encL] at this
    have := Row.part (a := headL (sb s) ++ be8 v ++ zs) (b := be8 h) (c := []) (by simpa using this)
    rwa [List.length_append, List.length_append, headL_length, be8_length, sl, hz, show 38 + s.size + 8 + 32 = 78 + s.size by omega] at this
  clear HR sl
  go_enter Try.func7, Try.ntmps7
  go_wp2_with fail
  rw [← hW]
  have HW : Hid (W = w.alloc (.cells (I8 zs).toArray 23)) := hW
  clear hW
  refine (readField' g _ cap 0 _ rfl _ _ (by omega) (by rw [tag2_size]; omega) (by rw [tag2_size]; exact R1.out) (by rw [tag2_sb]; exact R2.out)).mono ?_
  rw [tag2_size]
  rintro e w1 ⟨rfl, q1, rfl⟩
  go_wp2_with fail
  refine (readField' g _ cap 30 _ rfl s _ (by omega) (by omega) (R3.out.drewN _) (R4.out.drewN _)).mono ?_
  rintro e w2 ⟨rfl, q2, rfl⟩
  go_wp2_with fail
  refine (readU64' g _ cap (38 + s.size) _ (by omega) v v0 v1 _ (by omega) (by omega) ?_).mono ?_
  · exact R5.out.drewN _
  rintro e w3 ⟨rfl, rfl⟩
  go_wp2_with fail
  go_loopw [15] (fun i wr => ∃ k q : Nat, k ≤ 32 ∧ i = .int .i64 k ∧ wr = W.drewN q) (fun i _ => 32 - (intOf i).toNat)
  case atStart => exact ⟨0, _, Nat.zero_le _, rfl, rfl⟩
  case round =>
    obtain ⟨k, q, hk, rfl, rfl⟩ := hrel
    by_cases hlt : k < 32
    · obtain ⟨x, hx⟩ : ∃ x, x = zs.getD k 0 := ⟨_, rfl⟩
      have c1 := C.out k hlt
      have c2 := R6.out k (by omega)
      rw [show 46 + s.size + k = 38 + s.size + 8 + k by omega] at c2
      rw [← hx] at c1 c2
      clear hx
      go_wp2
      go_quiet (fail)
      go_wp2
      go_roundw
      case rel => exact ⟨k + 1, _, by omega, by go_num, rfl⟩
      case measure => simp [intOf]; omega
    · go_wp2_with fail
      refine (readU64' g _ cap (78 + s.size) _ (by omega) h h0 h1 _ (by omega) (by omega) (R7.out.drewN _)).mono ?_
      rintro e w3 ⟨rfl, rfl⟩
      go_wp2
      go_ret
      refine ⟨?_, below_drewN B0.out _⟩
      have e : ((38 : Int) + s.size + 8 + 32 + 8 == 86 + s.size) = true := by rw [beq_iff_eq]; omega
      show Ending.returned (.bool ((38 : Int) + s.size + 8 + 32 + 8 == 86 + s.size)) = _
      rw [e]

end Go.Proofs.Qxb6609048a
