/-
  The encoder's walks of the seat b6609048a: signedBytes, commitVoteBytes, ZZcommitVoteBytes.
-/
import Derived.Test.Qxb6609048aEnc2
namespace Go.Proofs.Qxb6609048a
open Go.RowKit

theorem tag_size : ((⟨#[113, 117, 111, 114, 117, 109, 108, 105, 110, 101, 47]⟩ : ByteArray) ++ (⟨#[99, 111, 109, 109, 105, 116, 45, 118, 111, 116, 101]⟩ : ByteArray)).size = 22 := by kernel_rfl
theorem tag_sb : sb ((⟨#[113, 117, 111, 114, 117, 109, 108, 105, 110, 101, 47]⟩ : ByteArray) ++ (⟨#[99, 111, 109, 109, 105, 116, 45, 118, 111, 116, 101]⟩ : ByteArray)) = tagL := by kernel_rfl

theorem Enc.start (w : World) : Enc w.heap.size 0 [] (w.alloc (Obj.cells #[Value.slice none 0 0] 39)) := ⟨_, heap_alloc_new w _, World.ownsRow_nil _ _ _ _⟩

set_option maxHeartbeats 2000000 in
set_option maxRecDepth 100000 in
theorem signed (s : ByteArray) (w : World) (hlim : s.size ≤ 1048576) :
    Calls Try.prog 13 #[.string ⟨#[99, 111, 109, 109, 105, 116, 45, 118, 111, 116, 101]⟩, .string s] w fun e w' => e = .returned (.pointer (some ⟨w.heap.size, 0, none⟩)) ∧ Enc w.heap.size (38 + s.size) (headL (sb s)) w' ∧ Below w.heap.size w w' := by
  go_enter Try.func13, Try.ntmps13
  go_wp2_with fail
  refine (encStr w.heap.size 0 [] _ _ (Enc.start w) (by rw [tag_size]; omega)).mono ?_
  rintro e w1 ⟨rfl, hE1, hb1⟩
  rw [tag_size, tag_sb] at hE1
  go_wp2_with fail
  refine (encStr w.heap.size 30 _ s _ hE1 (by omega)).mono ?_
  rintro e w2 ⟨rfl, hE2, hb2⟩
  go_wp2
  go_ret
  refine ⟨rfl, ?_, (((Below.refl _ w).alloc (Nat.le_refl _) _).trans hb1).trans hb2⟩
  have e1 : 30 + 8 + s.size = 38 + s.size := by omega
  rw [e1] at hE2
  simpa [headL, sb_length] using hE2

theorem ownsRow_mono {w : World} {B B' e size n : Nat} {v : Value} {xs : List Value} (h : w.ownsRow B e size v n xs) (hB : B' ≤ B) : w.ownsRow B' e size v n xs := by
  refine ⟨h.1, ?_⟩
  rcases h.2 with h | ⟨g, cap, cur, hv, hb, r⟩
  · exact .inl h
  · exact .inr ⟨g, cap, cur, hv, Nat.le_trans hB hb, r⟩

theorem info27 : (Try.prog.info? 27).map (·.size) = some 32 := by kernel_rfl

set_option maxHeartbeats 2000000 in
set_option maxRecDepth 100000 in
theorem commit (s : ByteArray) (v : Int) (zs : List Int) (h : Int) (w : World) (hlim : s.size ≤ 1048576) (v0 : 0 ≤ v) (v1 : v ≤ 18446744073709551615) (hz : zs.length = 32) (h0 : 0 ≤ h) (h1 : h ≤ 18446744073709551615) :
    Calls Try.prog 10 #[.string s, .int .u64 v, .agg (I8 zs).toArray, .int .u64 h] w fun e w' => ∃ r, e = .returned r ∧ w'.ownsRow w.heap.size 5 1 r (86 + s.size) (I8 (encL (sb s) v zs h)) ∧ Below w.heap.size w w' := by
  have hi27 : (Try.prog.info? 27).map (·.size) = some (I8 zs).toArray.size := by rw [info27]; simp [I8_length, hz]
  have HI : Hid ((Try.prog.info? 27).map (·.size) = some (I8 zs).toArray.size) := hi27
  clear hi27
  go_enter Try.func10, Try.ntmps10
  go_wp2_with fail
  refine (signed s _ hlim).mono ?_
  rintro e w1 ⟨rfl, hE1, hb1⟩
  rw [World.size_alloc] at hE1 hb1
  have HG1 : Hid (w1.heap[w.heap.size]? = some (.cells (I8 zs).toArray 27 (0, 0))) := (hb1.block _ (Nat.lt_succ_self _)).trans (heap_alloc_new w _)
  go_wp2_with fail
  refine (encU64 _ _ _ v v0 v1 _ hE1 (by omega)).mono ?_
  rintro e w2 ⟨rfl, hE2, hb2⟩
  have HG2 : Hid (w2.heap[w.heap.size]? = some (.cells (I8 zs).toArray 27 (0, 0))) := (hb2.block _ (Nat.lt_succ_self _)).trans HG1.out
  go_wp2_with (refine wpList_load_row rfl 27 (.tmp 6) rfl w.heap.size rfl 27 (I8 zs).toArray (0, 0) _ HG2.out Try.underlying27 rfl HI.out ?_)
  refine (encHash _ _ _ zs hz _ hE2 (by omega)).mono ?_
  rintro e w3 ⟨rfl, hE3, hb3⟩
  go_wp2_with fail
  refine (encU64 _ _ _ h h0 h1 _ hE3 (by omega)).mono ?_
  rintro e w4 ⟨rfl, hE4, hb4⟩
  obtain ⟨sv, hb, hown⟩ := hE4
  have hc := cell_of_one hb
  clear hb
  go_wp2
  go_ret
  refine ⟨sv, rfl, ?_, ?_⟩
  · have e1 : 38 + s.size + 8 + 32 + 8 = 86 + s.size := by omega
    rw [e1] at hown
    exact ownsRow_mono hown (by omega)
  · exact ((((((Below.refl _ w).alloc (Nat.le_refl _) _).trans (hb1.mono (Nat.le_succ _))).trans (hb2.mono (Nat.le_succ _))).trans (hb3.mono (Nat.le_succ _))).trans (hb4.mono (Nat.le_succ _)))

/-- Block g holds the bytes l from its head on. -/
def Row (w : World) (g : Nat) (l : List Int) : Prop := ∀ j, j < l.length → w.cell? ⟨g, j, none⟩ = some (.int .u8 (l.getD j 0))

theorem row_of_owns {w : World} {B n : Nat} {r : Value} {l : List Int} (h : w.ownsRow B 5 1 r n (I8 l)) (hn : 0 < n) :
    ∃ g cap, r = .slice (some ⟨g, 0, none⟩) n cap ∧ B ≤ g ∧ n ≤ cap ∧ cap ≤ maxLen ∧ Row w g l := by
  have hc := h
  obtain ⟨_, h2⟩ := h
  rcases h2 with ⟨_, h0⟩ | ⟨g, cap, cur, rfl, hB, hh, hle, hm, _, ht⟩
  · omega
  · refine ⟨g, cap, rfl, hB, hle, hm, fun j hj => ?_⟩
    have := hc.cells (g := g) rfl j (.int .u8 (l.getD j 0)) (by simp [I8, hj])
    rwa [Addr.add_lit, Nat.zero_add] at this

set_option maxHeartbeats 2000000 in
set_option maxRecDepth 100000 in
theorem zz (s : ByteArray) (v : Int) (zs : List Int) (h : Int) (w : World) (hlim : s.size ≤ 1048576) (v0 : 0 ≤ v) (v1 : v ≤ 18446744073709551615) (hz : zs.length = 32) (h0 : 0 ≤ h) (h1 : h ≤ 18446744073709551615) :
    Calls Try.prog 6 #[.string s, .int .u64 v, .agg (I8 zs).toArray, .int .u64 h] w fun e w' => ∃ g cap, e = .returned (.slice (some ⟨g, 0, none⟩) (86 + s.size) cap) ∧ w.heap.size ≤ g ∧ g < w'.heap.size ∧ 86 + s.size ≤ cap ∧ cap ≤ maxLen ∧ Row w' g (encL (sb s) v zs h) ∧ Below w.heap.size w w' := by
  have HI : Hid ((Try.prog.info? 27).map (·.size) = some (I8 zs).toArray.size) := by show _ = _; rw [info27]; simp [I8_length, hz]
  go_enter Try.func6, Try.ntmps6
  go_wp2_with (refine wpList_load_row rfl 27 (.tmp 6) rfl w.heap.size rfl 27 (I8 zs).toArray (0, 0) _ (heap_alloc_new w _) Try.underlying27 rfl HI.out ?_)
  refine (commit s v zs h _ hlim v0 v1 hz h0 h1).mono ?_
  rintro e w1 ⟨r, rfl, hown, hbel⟩
  rw [World.size_alloc] at hown hbel
  obtain ⟨g, cap, rfl, hB, hle, hm, hr⟩ := row_of_owns hown (by omega)
  go_wp2
  go_ret
  refine ⟨g, cap, rfl, by omega, ?_, hle, hm, hr, ?_⟩
  · have := hr 0 (by rw [encL_length _ _ _ _ hz]; omega)
    exact World.block_lt_of_cell? w1 ⟨g, 0, none⟩ this
  · exact ((Below.refl _ w).alloc (Nat.le_refl _) _).trans (hbel.mono (Nat.le_succ _))

end Go.Proofs.Qxb6609048a
