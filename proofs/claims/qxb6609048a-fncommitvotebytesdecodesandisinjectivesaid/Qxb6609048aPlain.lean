/-
  Plain words of the seat b6609048a: bytes as integers, no Go in sight.
-/
import Derived.WalkKit
namespace Go.Proofs.Qxb6609048a
set_option linter.unusedVariables false

/-- A number's eight bytes, the greatest first. -/
def be8 (v : Int) : List Int := [v / 72057594037927936, v / 281474976710656 % 256, v / 1099511627776 % 256, v / 4294967296 % 256, v / 16777216 % 256, v / 65536 % 256, v / 256 % 256, v % 256]

/-- Bytes as cells. -/
def I8 (l : List Int) : List Value := l.map (Value.int .u8)

/-- A string's bytes as integers. -/
def sb (s : ByteArray) : List Int := s.data.toList.map fun b => ((b.toNat : Nat) : Int)

theorem I8_append (a b : List Int) : I8 (a ++ b) = I8 a ++ I8 b := by simp [I8]
theorem I8_length (a : List Int) : (I8 a).length = a.length := by simp [I8]
theorem be8_length (v : Int) : (be8 v).length = 8 := rfl
theorem sb_length (s : ByteArray) : (sb s).length = s.size := by
  unfold sb; rw [List.length_map, Array.length_toList]; rfl
theorem I8_one (l : List Int) : ∀ u ∈ I8 l, u.oneCell' = true := by
  intro u hu; obtain ⟨_, _, rfl⟩ := List.mem_map.1 hu; rfl

/-- "quorumline/commit-vote" -/
def tagL : List Int := [113, 117, 111, 114, 117, 109, 108, 105, 110, 101, 47, 99, 111, 109, 109, 105, 116, 45, 118, 111, 116, 101]

/-- What signedBytes has written. -/
def headL (c : List Int) : List Int := be8 22 ++ tagL ++ be8 c.length ++ c

/-- The signed bytes of a commit vote. -/
def encL (c : List Int) (v : Int) (b : List Int) (h : Int) : List Int := headL c ++ be8 v ++ b ++ be8 h

/-- Their last 48 bytes. -/
def tailL (v : Int) (b : List Int) (h : Int) : List Int := be8 v ++ b ++ be8 h

theorem headL_length (c : List Int) : (headL c).length = 38 + c.length := by
  simp [headL, be8_length, tagL]
  omega
theorem tailL_length (v : Int) (b : List Int) (h : Int) (hb : b.length = 32) : (tailL v b h).length = 48 := by
  simp [tailL, be8_length, hb]
theorem encL_eq (c : List Int) (v : Int) (b : List Int) (h : Int) : encL c v b h = headL c ++ tailL v b h := by
  simp [encL, tailL]
theorem encL_length (c : List Int) (v : Int) (b : List Int) (h : Int) (hb : b.length = 32) : (encL c v b h).length = 86 + c.length := by
  rw [encL_eq, List.length_append, headL_length, tailL_length _ _ _ hb]; omega

theorem be8_inj {v u : Int} (a : 0 ≤ v) (b : v ≤ 18446744073709551615) (c : 0 ≤ u) (d : u ≤ 18446744073709551615) (h : be8 v = be8 u) : v = u := by
  simp only [be8, List.cons.injEq, and_true] at h
  omega

theorem headL_inj {c d : List Int} : headL c = headL d ↔ c = d := by
  constructor
  · intro h
    have := congrArg (List.drop 38) h
    have e : ∀ x : List Int, (headL x).drop 38 = x := by
      intro x
      unfold headL
      rw [List.drop_append, List.drop_eq_nil_of_le (by simp [be8_length, tagL])]
      simp [be8_length, tagL]
    rwa [e, e] at this
  · intro h; rw [h]

theorem tailL_inj {v1 v2 h1 h2 : Int} {b1 b2 : List Int} (a0 : 0 ≤ v1) (a1 : v1 ≤ 18446744073709551615) (a2 : 0 ≤ h1) (a3 : h1 ≤ 18446744073709551615) (c0 : 0 ≤ v2) (c1 : v2 ≤ 18446744073709551615) (c2 : 0 ≤ h2) (c3 : h2 ≤ 18446744073709551615)
    (l1 : b1.length = 32) (l2 : b2.length = 32) : tailL v1 b1 h1 = tailL v2 b2 h2 ↔ v1 = v2 ∧ b1 = b2 ∧ h1 = h2 := by
  constructor
  · intro h
    unfold tailL at h
    obtain ⟨h12, h3⟩ := List.append_inj h (by simp [be8_length, l1, l2])
    obtain ⟨hv, hb⟩ := List.append_inj h12 rfl
    exact ⟨be8_inj a0 a1 c0 c1 hv, hb, be8_inj a2 a3 c2 c3 h3⟩
  · rintro ⟨rfl, rfl, rfl⟩; rfl

theorem sb_inj {s t : ByteArray} : sb s = sb t ↔ s = t := by
  constructor
  · intro h
    have : s.data.toList = t.data.toList := by
      unfold sb at h
      refine List.map_inj_right (f := fun b : UInt8 => ((b.toNat : Nat) : Int)) ?_ |>.1 h
      intro x y hxy
      exact UInt8.toNat_inj.1 (by have h' : ((x.toNat : Nat) : Int) = ((y.toNat : Nat) : Int) := hxy; omega)
    cases s; cases t
    simp only [ByteArray.mk.injEq]
    exact Array.toList_inj.1 this
  · intro h; rw [h]

theorem enc_head (c : List Int) (v : Int) (b : List Int) (h : Int) (j : Nat) (hj : j < (headL c).length) : (encL c v b h).getD j 0 = (headL c).getD j 0 := by
  rw [encL_eq]; simp [List.getElem?_append, hj]
theorem enc_tail (c : List Int) (v : Int) (b : List Int) (h : Int) (j : Nat) : (encL c v b h).getD (38 + c.length + j) 0 = (tailL v b h).getD j 0 := by
  rw [encL_eq]
  simp only [List.getD_eq_getElem?_getD]
  rw [List.getElem?_append_right (by rw [headL_length]; omega), headL_length]
  congr 2; omega
theorem tail_block (v : Int) (b : List Int) (h : Int) (j : Nat) (hb : b.length = 32) (hj : j < 32) : (tailL v b h).getD (8 + j) 0 = b.getD j 0 := by
  unfold tailL
  simp only [List.getD_eq_getElem?_getD, List.append_assoc]
  rw [List.getElem?_append_right (by rw [be8_length]; omega), be8_length, List.getElem?_append_left (by omega)]
  congr 2; omega

end Go.Proofs.Qxb6609048a
