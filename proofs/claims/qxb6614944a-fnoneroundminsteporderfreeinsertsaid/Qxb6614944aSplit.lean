/-
  The walk of FnOneRoundMinStepSplit (seat b6614944a).
-/
import Derived.Test.Qxb6614944aPlain
import Derived.Laws.CopyOwn
import Derived.Deep.RegionWith
namespace Go.Proofs.Qxb6614944a
open Go.RowKit

/-- A list of integers as cells. -/
def I64 (l : List Int) : List Value := l.map (Value.int .i64)
theorem I64_length (l : List Int) : (I64 l).length = l.length := by simp [I64]
theorem I64_one (l : List Int) : ∀ u ∈ I64 l, u.oneCell' = true := by
  intro u hu; obtain ⟨_, _, rfl⟩ := List.mem_map.1 hu; rfl

theorem splice_whole (cur cs : List Value) (h : cur.length = cs.length) : splice cur 0 cs = cs := by
  simp [splice, ← h]

/-- The block that make has laid. -/
theorem made_block {W : World} {g n : Nat} {xs : List Value} (h : W.ownsRow g 3 1 (.slice (some ⟨g, 0, none⟩) n n) n xs) : W.heap[g]? = some (.cells xs.toArray 3 (0, 0)) ∧ xs.length = n := by
  obtain ⟨h1, h2⟩ := h
  rcases h2 with ⟨h2, _⟩ | ⟨g', cap, cur, e, _, hg, _, _, hs, ht⟩
  · cases h2
  · simp only [Value.slice.injEq, Option.some.injEq, Addr.mk.injEq, and_true, true_and] at e
    obtain ⟨rfl, rfl⟩ := e
    rw [List.take_of_length_le (by rw [Array.length_toList, hs]; exact Nat.le_refl _)] at ht
    subst ht
    exact ⟨by simpa using hg, by simpa using h1⟩

theorem ints_of_block {W : World} {g : Nat} {vs : List Int} (h : W.heap[g]? = some (.cells (I64 vs).toArray 3 (0, 0))) : IntsAt W g 0 vs := fun j hj => by
  rw [Nat.zero_add, cell_of_row W g j _ _ _ h]
  simp [I64, hj]

theorem below_alloc (w : World) (o : Obj) : Below w.heap.size w (w.alloc o) := (Below.refl _ w).alloc (Nat.le_refl _) _
theorem Sl.drop {w : World} {G n k : Nat} {vs : List Int} (h : Sl w (some ⟨G, 0, none⟩) vs) (hl : vs.length = n) : Sl w (some ⟨G, k, none⟩) (vs.drop k) := fun hne => by
  obtain ⟨b, o, e, hlt, hc⟩ := h (by intro e; rw [e] at hne; simp at hne)
  obtain ⟨rfl, rfl⟩ : G = b ∧ 0 = o := by simpa using e
  refine ⟨G, k, rfl, hlt, fun j hj => ?_⟩
  have hj' : k + j < vs.length := by simp at hj; omega
  have := hc (k + j) hj'
  rw [Nat.zero_add] at this
  rw [this]
  simp [List.getD_eq_getElem?_getD]
theorem Sl.nil (w : World) (ao : Option Addr) {vs : List Int} (h : vs = []) : Sl w ao vs := fun hne => absurd h hne

theorem res_new (w : World) (A B : Obj) : ((w.alloc A).alloc B).drew.heap[w.heap.size + 1]? = some B := by
  have := heap_alloc_new (w.alloc A) B
  rw [World.size_alloc] at this
  exact this
theorem below_one (w : World) (A : Obj) : Below w.heap.size w (w.alloc A).drew := (below_alloc w A).drew
theorem below_two (w : World) (A B : Obj) : Below w.heap.size w ((w.alloc A).alloc B).drew := ((below_alloc w A).alloc (by simp) B).drew

/-- An outcome that has decided v and halted lies in block b. -/
def Out (w : World) (b : Nat) (v : Int) : Prop := w.cell? ⟨b, 0, none⟩ = some (.bool true) ∧ w.cell? ⟨b, 1, none⟩ = some (.int .i64 v) ∧ w.cell? ⟨b, 2, none⟩ = some (.bool true)
theorem Out.lt {w : World} {b : Nat} {v : Int} (h : Out w b v) : b < w.heap.size := World.block_lt_of_cell? w ⟨b, 0, none⟩ h.1
theorem Out.below {w w' : World} {b : Nat} {v : Int} (h : Out w b v) (hb : Below w.heap.size w w') : Out w' b v :=
  ⟨(hb.cell (p := ⟨b, 0, none⟩) h.lt).trans h.1, (hb.cell (p := ⟨b, 1, none⟩) h.lt).trans h.2.1, (hb.cell (p := ⟨b, 2, none⟩) h.lt).trans h.2.2⟩
theorem Out.drew {w : World} {b : Nat} {v : Int} (h : Out w b v) : Out w.drew b v := h
theorem Out.new (w : World) (v : Int) : Out (w.alloc (Obj.cells #[Value.bool true, Value.int IntKind.i64 v, Value.bool true] 25)) w.heap.size v :=
  ⟨cell_new w _ 25 0 _ rfl, cell_new w _ 25 1 _ rfl, cell_new w _ 25 2 _ rfl⟩
theorem Out.put {w : World} {b : Nat} {v : Int} {x0 x1 x2 : Value} (r0 : w.cell? ⟨b, 0, none⟩ = some x0) (r1 : w.cell? ⟨b, 1, none⟩ = some x1) (r2 : w.cell? ⟨b, 2, none⟩ = some x2) :
    Out (((w.setCell ⟨b, 0, none⟩ (.bool true)).setCell ⟨b, 1, none⟩ (.int .i64 v)).setCell ⟨b, 2, none⟩ (.bool true)) b v := by
  refine ⟨?_, ?_, ?_⟩
  · rw [set_other (by omega), set_other (by omega), World.cell?_setCell_same _ _ _ r0]
  · rw [set_other (by omega), World.cell?_setCell_same _ _ _ (by rw [set_other (by omega)]; exact r1)]
  · rw [World.cell?_setCell_same _ _ _ (by rw [set_other (by omega), set_other (by omega)]; exact r2)]
theorem Below.put3 {B : Nat} {w0 w : World} {b : Nat} (h : Below B w0 w) (hb : B ≤ b) (x y z : Value) :
    Below B w0 (((w.setCell ⟨b, 0, none⟩ x).setCell ⟨b, 1, none⟩ y).setCell ⟨b, 2, none⟩ z) :=
  ((h.setCell (p := ⟨b, 0, none⟩) hb _).setCell (p := ⟨b, 1, none⟩) hb _).setCell (p := ⟨b, 2, none⟩) hb _

/-- What the third call leaves, whichever order was drawn: in the one the outcome's block is laid behind the call .. -/
theorem end_one {w4 w5 : World} {G : Nat} {M M1 M2 : Int} {b1 : Nat} {vs : List Int} (o1 : Out w4 b1 M) (s4 : Sl w4 (some ⟨G, 0, none⟩) vs)
    (hb5 : Below (w4.alloc (Obj.cells #[Value.bool true, Value.int IntKind.i64 M1, Value.bool true] 25)).drew.heap.size (w4.alloc (Obj.cells #[Value.bool true, Value.int IntKind.i64 M1, Value.bool true] 25)).drew w5) :
    Out (w5.alloc (Obj.cells #[Value.bool true, Value.int IntKind.i64 M2, Value.bool true] 25)) b1 M ∧ Out (w5.alloc (Obj.cells #[Value.bool true, Value.int IntKind.i64 M2, Value.bool true] 25)) w4.heap.size M1 ∧
    Out (w5.alloc (Obj.cells #[Value.bool true, Value.int IntKind.i64 M2, Value.bool true] 25)) w5.heap.size M2 ∧ Sl (w5.alloc (Obj.cells #[Value.bool true, Value.int IntKind.i64 M2, Value.bool true] 25)) (some ⟨G, 0, none⟩) vs ∧
    Below w4.heap.size w4 (w5.alloc (Obj.cells #[Value.bool true, Value.int IntKind.i64 M2, Value.bool true] 25)) := by
  have h45 : Below w4.heap.size w4 w5 := (below_one w4 _).trans (hb5.mono (by simp))
  have hA : Below w4.heap.size w4 (w5.alloc (Obj.cells #[Value.bool true, Value.int IntKind.i64 M2, Value.bool true] 25)) := h45.trans ((below_alloc w5 _).mono h45.size)
  exact ⟨o1.below hA, (((Out.new w4 M1).drew).below hb5).below (below_alloc _ _), Out.new w5 M2, s4.below hA, hA⟩
/-- .. in the others ahead of it. -/
theorem end_two {w4 w5 : World} {G : Nat} {M M1 M2 : Int} {b1 : Nat} {vs : List Int} {Z : Obj} (o1 : Out w4 b1 M) (s4 : Sl w4 (some ⟨G, 0, none⟩) vs)
    (hb5 : Below ((w4.alloc (Obj.cells #[Value.bool true, Value.int IntKind.i64 M1, Value.bool true] 25)).alloc Z).drew.heap.size ((w4.alloc (Obj.cells #[Value.bool true, Value.int IntKind.i64 M1, Value.bool true] 25)).alloc Z).drew w5)
    {x0 x1 x2 : Value} (r0 : w5.cell? ⟨w4.heap.size + 1, 0, none⟩ = some x0) (r1 : w5.cell? ⟨w4.heap.size + 1, 1, none⟩ = some x1) (r2 : w5.cell? ⟨w4.heap.size + 1, 2, none⟩ = some x2) :
    Out (((w5.setCell ⟨w4.heap.size + 1, 0, none⟩ (.bool true)).setCell ⟨w4.heap.size + 1, 1, none⟩ (.int .i64 M2)).setCell ⟨w4.heap.size + 1, 2, none⟩ (.bool true)) b1 M ∧
    Out (((w5.setCell ⟨w4.heap.size + 1, 0, none⟩ (.bool true)).setCell ⟨w4.heap.size + 1, 1, none⟩ (.int .i64 M2)).setCell ⟨w4.heap.size + 1, 2, none⟩ (.bool true)) w4.heap.size M1 ∧
    Out (((w5.setCell ⟨w4.heap.size + 1, 0, none⟩ (.bool true)).setCell ⟨w4.heap.size + 1, 1, none⟩ (.int .i64 M2)).setCell ⟨w4.heap.size + 1, 2, none⟩ (.bool true)) (w4.heap.size + 1) M2 ∧
    Sl (((w5.setCell ⟨w4.heap.size + 1, 0, none⟩ (.bool true)).setCell ⟨w4.heap.size + 1, 1, none⟩ (.int .i64 M2)).setCell ⟨w4.heap.size + 1, 2, none⟩ (.bool true)) (some ⟨G, 0, none⟩) vs ∧
    Below w4.heap.size w4 (((w5.setCell ⟨w4.heap.size + 1, 0, none⟩ (.bool true)).setCell ⟨w4.heap.size + 1, 1, none⟩ (.int .i64 M2)).setCell ⟨w4.heap.size + 1, 2, none⟩ (.bool true)) := by
  have h45 : Below w4.heap.size w4 w5 := (below_two w4 _ _).trans (hb5.mono (by simp; omega))
  have hA : Below w4.heap.size w4 (((w5.setCell ⟨w4.heap.size + 1, 0, none⟩ (.bool true)).setCell ⟨w4.heap.size + 1, 1, none⟩ (.int .i64 M2)).setCell ⟨w4.heap.size + 1, 2, none⟩ (.bool true)) := Below.put3 h45 (Nat.le_succ _) _ _ _
  have hC : Below (w4.heap.size + 1) (w4.alloc (Obj.cells #[Value.bool true, Value.int IntKind.i64 M1, Value.bool true] 25)) (((w5.setCell ⟨w4.heap.size + 1, 0, none⟩ (.bool true)).setCell ⟨w4.heap.size + 1, 1, none⟩ (.int .i64 M2)).setCell ⟨w4.heap.size + 1, 2, none⟩ (.bool true)) :=
    Below.put3 ((((Below.refl _ _).alloc (by simp) Z).drew).trans (hb5.mono (by simp))) (Nat.le_refl _) _ _ _
  exact ⟨o1.below hA, (Out.new w4 M1).below (by rw [World.size_alloc]; exact hC), Out.put r0 r1 r2, s4.below hA, hA⟩

/-- Whether the least has been met among the proposal and the first j values. -/
def fnd (M prop : Int) (vs : List Int) (j : Nat) : Bool := decide (M = prop ∨ M ∈ vs.take j)
theorem fnd_zero (M prop : Int) (vs : List Int) : (M == prop) = fnd M prop vs 0 := by
  rw [Bool.eq_iff_iff]; simp [fnd]
theorem fnd_succ (M prop : Int) (vs : List Int) (j : Nat) (hj : j < vs.length) : fnd M prop vs (j + 1) = (fnd M prop vs j || (M == vs.getD j 0)) := by
  rw [Bool.eq_iff_iff, fnd, take_snoc vs j hj]
  simp [fnd, or_assoc]
theorem fnd_end {p : Int} {vs : List Int} : fnd (minL p vs) p vs vs.length = true := by
  have := minL_mem p vs
  simpa [fnd] using this

set_option maxHeartbeats 1000000 in
set_option maxRecDepth 100000 in
theorem split_some (id nn t prop rd : Int) (x : Addr) (n cap : Nat) (vs : List Int) (k : Nat) (w : World) (hl : vs.length = n) (hn : n ≤ 65536) (hk : k ≤ n)
    (hc : ∀ j, j < n → w.cell? (x.add j) = some (.int .i64 (vs.getD j 0))) :
    Calls Try.prog 3 #[.int .i64 id, .int .i64 nn, .int .i64 t, .int .i64 prop, .int .i64 rd, .slice (some x) n cap, .int .i64 k] w fun e w' => e = .returned (.bool true) ∧ Below w.heap.size w w' := by
  obtain ⟨i0, hi, hz0, hz1, hz2⟩ := info_parts info3
  have HC : Hid (∀ j, j < n → w.cell? (x.add j) = some (.int .i64 (vs.getD j 0))) := hc
  have HL : Hid (vs.length = n) := hl
  clear hc hl
  go_enter Try.func3, Try.ntmps3
  go_wp2_with (first | (go_at_call 5; refine (zzb5 _ _ _ _ _ _ _ _ _ _ (by omega)).mono ?_; rintro e w ⟨b, rfl, rfl⟩; cases b) | (at_make; refine wpList_make_full _ rfl (.tmp 46) (.tmp 46) 22 rfl w.heap.size 3 i0 _ 1 Try.underlying22 hi hz0 hz1 .i64 .i64 _ _ n rfl rfl rfl rfl (by rw [hz2]; omega) (by unfold maxLen; omega) (Nat.le_refl _) ?_))
  · go_ret
    exact ⟨rfl, Below.refl _ _⟩
  intro W hown hgrow
  obtain ⟨hblk, hlen⟩ := made_block hown
  have hBW : Below w.heap.size w W := (Below.refl _ w).grown hgrow (Nat.le_refl _) (fun k hk => by cases hk)
  generalize (madeCells #[Value.int IntKind.i64 0] n).toList = cur at hblk hlen
  have HBlk : Hid (W.heap[w.heap.size]? = some (.cells cur.toArray 3 (0, 0))) := hblk
  have HBW : Hid (Below w.heap.size w W) := hBW
  have HLen : Hid (cur.length = n) := hlen
  have HV : Hid ((I64 vs).length = n) := by show _ = _; rw [I64_length]; exact HL.out
  clear hown hgrow hblk hlen hBW
  obtain ⟨cs, hcs⟩ : ∃ cs, cs = I64 vs := ⟨_, rfl⟩
  have HCS : Hid (cs = I64 vs) := hcs
  have hcsl : Hid (cs.length = n) := by rw [hcs]; exact HV.out
  have hone : Hid (∀ v ∈ cs, v.oneCell' = true) := by rw [hcs]; exact I64_one vs
  have hsrc : Hid (0 < cs.length → (some (⟨w.heap.size, 0, none⟩ : Addr)) = some ⟨w.heap.size, 0, none⟩ ∧ ∃ ad, some x = some ad ∧ ∀ j v, cs[j]? = some v → W.cell? (ad.add j) = some v) := fun _ => ⟨rfl, x, rfl, fun j v hj => by
    have hj' : j < n := by rw [← hcsl.out]; exact (List.getElem?_eq_some_iff.1 hj).1
    have hcell := HC.out j hj'
    rw [HBW.out.cell (World.block_lt_of_cell? w _ hcell), hcell, ← hj, hcs]
    simp [I64, HL.out, hj']⟩
  clear hcs
  go_wp2_with (refine wpList_copy_splice rfl (.tmp 48) (.tmp 49) 22 22 rfl 3 Try.underlying22 size3 _ _ _ _ _ _ rfl rfl w.heap.size 0 cur 3 HBlk.out cs (by rw [hcsl.out]; simp) hsrc.out (by rw [hcsl.out, HLen.out]; omega) hone.out w.heap.size w HBW.out (Nat.le_refl _) ?_)
  intro W2 HG2 hB2
  have HI : Hid (IntsAt W2 w.heap.size 0 vs) := by
    have h := HG2.out
    rw [splice_whole _ _ (by rw [HLen.out, hcsl.out]), HCS.out] at h
    exact ints_of_block h
  have HZ : Hid (w.heap.size < W2.heap.size) := lt_of_block HG2.out
  have HB2 : Hid (Below w.heap.size w W2) := hB2
  clear HG2 hB2 HC HBlk HBW HLen HV HCS hcsl hone hsrc hi hz0 hz1 hz2
  obtain ⟨G, hG⟩ : ∃ G, G = w.heap.size := ⟨_, rfl⟩
  rw [← hG] at HI HZ
  rw [← hG]
  have HGw : Hid (G = w.heap.size) := hG
  clear hG
  have SL : Hid (Sl W2 (some ⟨G, 0, none⟩) vs) := fun _ => ⟨G, 0, rfl, HZ.out, HI.out⟩
  go_wp2_with fail
  refine (zz' _ _ _ _ _ _ _ _ vs _ HL.out SL.out (by omega)).mono ?_
  rintro e w3 ⟨rfl, hb3⟩
  have HB3 : Hid (Below w.heap.size w w3) := HB2.out.trans (hb3.mono (by have := HZ.out; have := HGw.out; omega))
  have SL3 : Hid (Sl w3 (some ⟨G, 0, none⟩) vs) := SL.out.below hb3
  clear hb3 SL HB2 HI
  generalize hM : minL prop vs = M
  have HM : Hid (minL prop vs = M) := hM
  clear hM
  go_wp2_with fail
  refine (zz' _ _ _ _ _ _ _ _ (vs.take k) _ (by rw [List.length_take, HL.out]; omega) ((SL3.out.below (below_alloc _ _)).take k) (by omega)).mono ?_
  rintro e w4 ⟨rfl, hb4⟩
  have O1 : Hid (Out w4 w3.heap.size M) := (Out.new w3 M).below hb4
  have SL4 : Hid (Sl w4 (some ⟨G, 0, none⟩) vs) := (SL3.out.below (below_alloc _ _)).below hb4
  have HB4 : Hid (Below w.heap.size w w4) := (HB3.out.trans ((below_alloc w3 _).mono HB3.out.size)).trans (hb4.mono (by have := HB3.out.size; simp; omega))
  have hz4 : w3.heap.size < w4.heap.size := O1.out.lt
  clear hb4 SL3
  generalize hM1 : minL prop (vs.take k) = M1
  have HM1 : Hid (minL M1 (vs.drop k) = M) := by show _ = _; rw [← hM1, minL_split]; exact HM.out
  clear hM1
  have SLd : Hid (∀ W' ao, (n ≠ k → ao = some ⟨G, k, none⟩) → Below w4.heap.size w4 W' → Sl W' ao (vs.drop k)) := fun W' ao h hb => by
    by_cases e : n = k
    · exact Sl.nil _ _ (by rw [List.drop_eq_nil_iff, HL.out]; omega)
    · rw [h e]; exact (SL4.out.below hb).drop HL.out
  have hdl : Hid ((vs.drop k).length = n - k) := by show _ = _; rw [List.length_drop, HL.out]
  have hdn : n = k ∨ ¬ n = k := by omega
  rcases hdn with hne | hne
  all_goals
    go_wp2
    go_region_with (go_at_call 6; refine (zz' _ _ _ M1 _ _ _ _ (vs.drop k) _ (by rw [hdl.out]; try omega) (SLd.out _ _ (by first | exact fun _ => rfl | exact fun h => absurd hne h) (by first | exact below_one _ _ | exact below_two _ _ _)) (by omega)).mono ?_; rintro e w5 ⟨rfl, hb5⟩; try (obtain ⟨r0, r1, r2, g0, g1, g2⟩ := res_facts ((hb5.block (w4.heap.size + 1) (by simp)).trans (res_new _ _ _))))
    all_goals
      first
        | (have R := end_one (M2 := minL M1 (vs.drop k)) O1.out SL4.out hb5
           clear hb5
           rw [HM1.out] at R ⊢
           have QB : Hid (Below w.heap.size w (w5.alloc (Obj.cells #[Value.bool true, Value.int IntKind.i64 M, Value.bool true] 25))) := HB4.out.trans (R.2.2.2.2.mono HB4.out.size)
           generalize w5.alloc (Obj.cells #[Value.bool true, Value.int IntKind.i64 M, Value.bool true] 25) = F at R QB ⊢
           generalize w5.heap.size = b3 at R ⊢)
        | (have R := end_two (M2 := minL M1 (vs.drop k)) O1.out SL4.out hb5 r0 r1 r2
           clear hb5 r0 r1 r2 g0 g1 g2
           rw [HM1.out] at R ⊢
           have QB : Hid (Below w.heap.size w (((w5.setCell ⟨w4.heap.size + 1, 0, none⟩ (.bool true)).setCell ⟨w4.heap.size + 1, 1, none⟩ (.int .i64 M)).setCell ⟨w4.heap.size + 1, 2, none⟩ (.bool true))) := HB4.out.trans (R.2.2.2.2.mono HB4.out.size)
           generalize (((w5.setCell ⟨w4.heap.size + 1, 0, none⟩ (.bool true)).setCell ⟨w4.heap.size + 1, 1, none⟩ (.int .i64 M)).setCell ⟨w4.heap.size + 1, 2, none⟩ (.bool true)) = F at R QB ⊢
           generalize w4.heap.size + 1 = b3 at R ⊢)
      obtain ⟨q1, q2, q3, q4, q5⟩ := R
      have QS : Hid (Sl F (some ⟨G, 0, none⟩) vs) := q4
      clear q4 q5
      obtain ⟨q10, q11, q12⟩ := q1
      obtain ⟨q20, q21, q22⟩ := q2
      obtain ⟨q30, q31, q32⟩ := q3
      clear O1 SL4 HB4 SLd hdl
      generalize w3.heap.size = b1 at *
      generalize w4.heap.size = b2 at *
      have hMp : M ≤ prop := by rw [← HM.out]; exact minL_le _ _
      go_wp2
      go_loop [20, 109] (fun f i => ∃ j : Nat, j ≤ n ∧ i = .int .i64 j ∧ f = .bool (fnd M prop vs j)) (fun _ i => n - (intOf i).toNat)
      case atStart => exact ⟨0, Nat.zero_le _, rfl, by rw [fnd_zero]⟩
      case round =>
        obtain ⟨j, hj, rfl, rfl⟩ := hrel
        by_cases hjn : j < n
        · obtain ⟨b, o, e, _, hcj⟩ := QS.out (by intro e; have := HL.out; rw [e] at this; simp at this; omega)
          obtain ⟨rfl, rfl⟩ : G = b ∧ 0 = o := by simpa using e
          have c : F.cell? ⟨G, j, none⟩ = some (.int .i64 (vs.getD j 0)) := by
            have := hcj j (by rw [HL.out]; exact hjn)
            rwa [Nat.zero_add] at this
          have hMv : M ≤ vs.getD j 0 := by
            rw [← HM.out]; exact minL_le_mem (by simp [HL.out, hjn])
          have HS : Hid (fnd M prop vs (j + 1) = (fnd M prop vs j || (M == vs.getD j 0))) := fnd_succ _ _ _ _ (by rw [HL.out]; exact hjn)
          clear hcj e
          generalize vs.getD j 0 = v at *
          generalize fnd M prop vs j = f0 at *
          go_wp2
          all_goals
            refine ⟨⟨j + 1, by omega, by go_num, ?_⟩, by simp [intOf]; omega⟩
            rw [HS.out]
            simp_all
        · obtain rfl : j = n := by omega
          have hfe : fnd M prop vs j = true := by rw [← HM.out, ← HL.out]; exact fnd_end
          rw [hfe]
          go_wp2
          go_ret
          exact ⟨rfl, QB.out⟩

end Go.Proofs.Qxb6614944a
