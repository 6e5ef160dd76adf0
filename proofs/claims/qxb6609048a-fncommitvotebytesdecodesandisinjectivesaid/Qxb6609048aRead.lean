/-
  The readers' walks of the seat b6609048a: cvReadU64, cvReadField.
-/
import Derived.Test.Qxb6609048aEq
import Derived.Lib.EndianBits
import Derived.Laws.Bits64b
namespace Go.Proofs.Qxb6609048a
open Go.RowKit

/-- 256 to the power of 8 - k. -/
def p8 : Nat → Int
  | 0 => 18446744073709551616 | 1 => 72057594037927936 | 2 => 281474976710656 | 3 => 1099511627776 | 4 => 4294967296 | 5 => 16777216 | 6 => 65536 | 7 => 256 | _ => 1

theorem p8_step (v x : Int) (k : Nat) (h0 : 0 ≤ v) (h1 : v ≤ 18446744073709551615) (hk : k < 8) (hx : x = v / p8 k) :
    0 ≤ x ∧ x ≤ 72057594037927935 ∧ 0 ≤ (be8 v).getD k 0 ∧ (be8 v).getD k 0 ≤ 255 ∧ x * 256 + (be8 v).getD k 0 = v / p8 (k + 1) := by
  match k, hk with
  | 0, _ => simp [p8, be8] at *; omega
  | 1, _ => simp [p8, be8] at *; omega
  | 2, _ => simp [p8, be8] at *; omega
  | 3, _ => simp [p8, be8] at *; omega
  | 4, _ => simp [p8, be8] at *; omega
  | 5, _ => simp [p8, be8] at *; omega
  | 6, _ => simp [p8, be8] at *; omega
  | 7, _ => simp [p8, be8] at *; omega

theorem or_byte (x b : Int) (x0 : 0 ≤ x) (x1 : x ≤ 72057594037927935) (y0 : 0 ≤ b) (y1 : b ≤ 255) : bits .or .u64 (x * 256) b = x * 256 + b := by
  obtain ⟨m, hm⟩ := Int.eq_ofNat_of_zero_le (show 0 ≤ x * 256 by omega)
  obtain ⟨n, hn⟩ := Int.eq_ofNat_of_zero_le y0
  have e : bits .or .u64 (x * 256) b = bits .or .u64 b (x * 256) := by
    rw [hm, hn, bits_or_u64_nat _ _ (by omega) (by omega), bits_or_u64_nat _ _ (by omega) (by omega), Nat.or_comm]
  rw [e, u64_or8 _ _ y0 (by omega) (by omega) (by omega) (by omega)]
  omega

set_option maxHeartbeats 1000000 in
theorem readU64 (g n c at' : Nat) (v : Int) (h0 : 0 ≤ v) (h1 : v ≤ 18446744073709551615) (w : World) (hn : n ≤ 9223372036854775807) (hat : at' + 8 ≤ n) (hr : RowAt w g at' (be8 v)) :
    Calls Try.prog 12 #[.slice (some ⟨g, 0, none⟩) n c, .int .i64 at'] w fun e w' => e = .returned (.tuple #[.int .u64 v, .bool true]) ∧ w' = w := by
  have HR : Hid (RowAt w g at' (be8 v)) := hr
  have hd0 : decide ((at' : Int) < 0) = false := by simp
  clear hr
  go_enter Try.func12, Try.ntmps12
  go_wp2
  go_loop [6, 7] (fun t i => ∃ k : Nat, ∃ x : Int, k ≤ 8 ∧ i = .int .i64 k ∧ t = .int .u64 x ∧ Hid (x = v / p8 k)) (fun _ i => 8 - (intOf i).toNat)
  case atStart => exact ⟨0, 0, Nat.zero_le _, rfl, rfl, by show (0 : Int) = v / 18446744073709551616; omega⟩
  case round =>
    obtain ⟨k, x, hk, rfl, rfl, hx⟩ := hrel
    by_cases hlt : k < 8
    · obtain ⟨b, hb⟩ : ∃ b, b = (be8 v).getD k 0 := ⟨_, rfl⟩
      have st := p8_step v x k h0 h1 hlt hx.out
      have hc : w.cell? ⟨g, at' + k, none⟩ = some (.int .u8 b) := by rw [hb]; exact HR.out k (by simpa [be8_length] using hlt)
      rw [← hb] at st
      clear hb
      obtain ⟨x0, x1, y0, y1, hs⟩ := st
      have HS : Hid (x * 256 + b = v / p8 (k + 1)) := hs
      clear hs
      go_wp2
      go_round
      case rel => exact ⟨k + 1, _, by omega, by go_num, rfl, by show _ = _; rw [or_byte x b x0 x1 y0 y1]; exact HS.out⟩
      case measure => simp [intOf]; omega
    · obtain rfl : k = 8 := by omega
      have hx' : x = v := by rw [hx.out]; simp [p8]
      subst hx'
      go_wp2
      go_ret2
      exact ⟨rfl, rfl⟩

theorem sb_getD (s : ByteArray) (k : Nat) (hk : k < s.size) : (sb s).getD k 0 = ((s[k]).toNat : Int) := by
  unfold sb
  simp only [List.getD_eq_getElem?_getD, List.getElem?_map]
  rw [List.getElem?_eq_getElem (by rw [Array.length_toList]; exact hk)]
  rfl

set_option maxHeartbeats 1000000 in
theorem readField (g n c at' : Nat) (s : ByteArray) (w : World) (hn : n ≤ 9223372036854775807) (hat : at' + 8 + s.size ≤ n) (hr : RowAt w g at' (be8 s.size)) (hr2 : RowAt w g (at' + 8) (sb s)) :
    Calls Try.prog 11 #[.slice (some ⟨g, 0, none⟩) n c, .int .i64 at', .string s] w fun e w' => e = .returned (.tuple #[.int .i64 ((at' : Int) + 8 + s.size), .bool true]) ∧ ∃ q, w' = w.drewN q := by
  have HR : Hid (RowAt w g at' (be8 s.size)) := hr
  have HR2 : Hid (RowAt w g (at' + 8) (sb s)) := hr2
  clear hr hr2
  go_enter Try.func11, Try.ntmps11
  go_wp2_with (go_at_call 12; refine (readU64 g n c at' s.size (by omega) (by omega) _ hn (by omega) HR.out).mono ?_; rintro e w ⟨rfl, rfl⟩)
  go_loopw [10] (fun i wr => ∃ k q : Nat, k ≤ s.size ∧ i = .int .i64 k ∧ wr = w.drewN q) (fun i _ => s.size - (intOf i).toNat)
  case atStart => exact ⟨0, 0, Nat.zero_le _, rfl, rfl⟩
  case round =>
    obtain ⟨k, q, hk, rfl, rfl⟩ := hrel
    by_cases hlt : k < s.size
    · have hc : w.cell? ⟨g, at' + 8 + k, none⟩ = some (.int .u8 ((s[k]).toNat : Int)) := by
        rw [← sb_getD s k hlt]; exact HR2.out k (by rw [sb_length]; exact hlt)
      go_wp2
      go_quiet (fail)
      go_wp2
      go_roundw
      case rel => exact ⟨k + 1, _, by omega, by go_num, rfl⟩
      case measure => simp [intOf]; omega
    · go_wp2
      go_ret2
      exact ⟨rfl, q, rfl⟩

/-- The same two at a place that is spelt otherwise. -/
theorem readU64' (g n c at' : Nat) (a : Int) (ha : a = at') (v : Int) (h0 : 0 ≤ v) (h1 : v ≤ 18446744073709551615) (w : World) (hn : n ≤ 9223372036854775807) (hat : at' + 8 ≤ n) (hr : RowAt w g at' (be8 v)) :
    Calls Try.prog 12 #[.slice (some ⟨g, 0, none⟩) n c, .int .i64 a] w fun e w' => e = .returned (.tuple #[.int .u64 v, .bool true]) ∧ w' = w := by
  subst ha; exact readU64 g n c at' v h0 h1 w hn hat hr
theorem readField' (g n c at' : Nat) (a : Int) (ha : a = at') (s : ByteArray) (w : World) (hn : n ≤ 9223372036854775807) (hat : at' + 8 + s.size ≤ n) (hr : RowAt w g at' (be8 s.size)) (hr2 : RowAt w g (at' + 8) (sb s)) :
    Calls Try.prog 11 #[.slice (some ⟨g, 0, none⟩) n c, .int .i64 a, .string s] w fun e w' => e = .returned (.tuple #[.int .i64 (a + 8 + s.size), .bool true]) ∧ ∃ q, w' = w.drewN q := by
  subst ha; exact readField g n c at' s w hn hat hr hr2

end Go.Proofs.Qxb6609048a
