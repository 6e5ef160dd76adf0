/-
  The walk of FnOneRoundMinStepOrderFreeInsert (seat b6614944a).
-/
import Derived.Test.Qxb6614944aSplitN
namespace Go.Proofs.Qxb6614944a
open Go.RowKit

theorem minL_rot (p : Int) (vs : List Int) (k : Nat) : minL p (vs.drop k ++ vs.take k) = minL p vs := by
  refine minL_unique (minL_le _ _) (fun x hx => minL_le_mem ?_) ?_
  · rcases List.mem_append.1 hx with h | h
    · exact List.mem_of_mem_drop h
    · exact List.mem_of_mem_take h
  · rcases minL_mem p vs with h | h
    · exact .inl h
    · refine .inr ?_
      generalize minL p vs = m at h
      rw [← List.take_append_drop k vs, List.mem_append] at h
      rw [List.mem_append]
      exact h.symm

theorem minL_ins (p x : Int) (vs : List Int) (k : Nat) : minL p (vs.take k ++ [x] ++ vs.drop k) = min x (minL p vs) := by
  refine minL_unique ?_ ?_ ?_
  · have := minL_le p vs; omega
  · intro y hy
    simp only [List.mem_append, List.mem_singleton] at hy
    rcases hy with (h | h) | h
    · have := minL_le_mem (p := p) (List.mem_of_mem_take h); omega
    · omega
    · have := minL_le_mem (p := p) (List.mem_of_mem_drop h); omega
  · simp only [List.mem_append, List.mem_singleton]
    by_cases hx : x ≤ minL p vs
    · exact .inr (.inl (.inr (by omega)))
    · have e : min x (minL p vs) = minL p vs := by omega
      rw [e]
      rcases minL_mem p vs with h | h
      · exact .inl h
      · generalize minL p vs = m at h
        rw [← List.take_append_drop k vs, List.mem_append] at h
        rcases h with h | h
        · exact .inr (.inl (.inl h))
        · exact .inr (.inr h)

theorem I64_append (a b : List Int) : I64 a ++ I64 b = I64 (a ++ b) := by simp [I64]

/-- What append asks of a source. -/
theorem Sl.cells {w : World} {ao : Option Addr} {l : List Int} (h : Sl w ao l) : ∀ ad, ao = some ad → ∀ j u, (I64 l)[j]? = some u → w.cell? (ad.add j) = some u := by
  intro ad had j u hu
  have hj : j < l.length := by have := (List.getElem?_eq_some_iff.1 hu).1; rwa [I64_length] at this
  obtain ⟨b, o, e, _, hc⟩ := h (by intro e; rw [e] at hj; simp at hj)
  rw [e] at had
  obtain rfl := Option.some.inj had
  rw [Addr.add_lit, hc j hj, ← hu]
  simp [I64, hj]

/-- What is owned is there. -/
theorem sl_of_own {W : World} {base g n cap : Nat} {l : List Int} {xs : List Value} (h : W.ownsRow base 3 1 (.slice (some ⟨g, 0, none⟩) n cap) n xs) (e : xs = I64 l) : Sl W (some ⟨g, 0, none⟩) l := fun _ => by
  subst e
  have hx := h.1
  rw [I64_length] at hx
  refine ⟨g, 0, rfl, (h.lt g rfl).2, fun j hj => ?_⟩
  rw [Nat.zero_add, h.cellAt j (by omega)]
  simp [I64, hj]

theorem grow_below {B g : Nat} {a w w' : World} (h : Below B a w) (hg : w.grownBy w' (some g)) (hB : B ≤ w.heap.size) (hr : B ≤ g) : Below B a w' :=
  h.grown hg hB (fun k e => by cases e; exact hr)

set_option maxHeartbeats 1000000 in
set_option maxRecDepth 100000 in
theorem ins_some (id nn t prop rd x : Int) (xa : Addr) (n cap : Nat) (vs : List Int) (k : Nat) (w : World) (hl : vs.length = n) (hn : n ≤ 65536) (hk : k ≤ n)
    (hc : ∀ j, j < n → w.cell? (xa.add j) = some (.int .i64 (vs.getD j 0))) :
    Calls Try.prog 4 #[.int .i64 id, .int .i64 nn, .int .i64 t, .int .i64 prop, .int .i64 rd, .slice (some xa) n cap, .int .i64 k, .int .i64 x] w fun e w' => e = .returned (.bool true) ∧ Below w.heap.size w w' := by
  obtain ⟨i0, hi, hz0, hz1, hz2⟩ := info_parts info3
  have HC : Hid (∀ j, j < n → w.cell? (xa.add j) = some (.int .i64 (vs.getD j 0))) := hc
  have HL : Hid (vs.length = n) := hl
  clear hc hl
  go_enter Try.func4, Try.ntmps4
  go_wp2_with (first | (go_at_call 7; refine (zzb7 _ _ _ _ _ _ _ _ _ _ _ (by omega)).mono ?_; rintro e w ⟨b, rfl, rfl⟩; cases b) | (at_make; refine wpList_make_full _ rfl (.tmp 49) (.tmp 49) 22 rfl w.heap.size 3 i0 _ 1 Try.underlying22 hi hz0 hz1 .i64 .i64 _ _ n rfl rfl rfl rfl (by rw [hz2]; omega) (by unfold maxLen; omega) (Nat.le_refl _) ?_))
  · go_ret
    exact ⟨rfl, Below.refl _ _⟩
  intro W hown hgrow
  obtain ⟨hblk, hlen⟩ := made_block hown
  have hBW : Below w.heap.size w W := (Below.refl _ w).grown hgrow (Nat.le_refl _) (fun k hk => by cases hk)
  generalize (madeCells #[Value.int IntKind.i64 0] n).toList = cur at hblk hlen
  have HBlk : Hid (W.heap[w.heap.size]? = some (.cells cur.toArray 3 (0, 0))) := hblk
  have HBW : Hid (Below w.heap.size w W) := hBW
  have HLen : Hid (cur.length = n) := hlen
  have HV : Hid ((I64 vs).length = n) := by show _ = _; rw [I64_length]; exact HL.out
  clear hown hgrow hblk hlen hBW
  obtain ⟨cs, hcs⟩ : ∃ cs, cs = I64 vs := ⟨_, rfl⟩
  have HCS : Hid (cs = I64 vs) := hcs
  have hcsl : Hid (cs.length = n) := by rw [hcs]; exact HV.out
  have hone : Hid (∀ v ∈ cs, v.oneCell' = true) := by rw [hcs]; exact I64_one vs
  have hsrc : Hid (0 < cs.length → (some (⟨w.heap.size, 0, none⟩ : Addr)) = some ⟨w.heap.size, 0, none⟩ ∧ ∃ ad, some xa = some ad ∧ ∀ j v, cs[j]? = some v → W.cell? (ad.add j) = some v) := fun _ => ⟨rfl, xa, rfl, fun j v hj => by
    have hj' : j < n := by rw [← hcsl.out]; exact (List.getElem?_eq_some_iff.1 hj).1
    have hcell := HC.out j hj'
    rw [HBW.out.cell (World.block_lt_of_cell? w _ hcell), hcell, ← hj, hcs]
    simp [I64, HL.out, hj']⟩
  clear hcs
  go_wp2_with (refine wpList_copy_splice rfl (.tmp 51) (.tmp 52) 22 22 rfl 3 Try.underlying22 size3 _ _ _ _ _ _ rfl rfl w.heap.size 0 cur 3 HBlk.out cs (by rw [hcsl.out]; simp) hsrc.out (by rw [hcsl.out, HLen.out]; omega) hone.out w.heap.size w HBW.out (Nat.le_refl _) ?_)
  intro W2 HG2 hB2
  have HI : Hid (IntsAt W2 w.heap.size 0 vs) := by
    have h := HG2.out
    rw [splice_whole _ _ (by rw [HLen.out, hcsl.out]), HCS.out] at h
    exact ints_of_block h
  have HZ : Hid (w.heap.size < W2.heap.size) := lt_of_block HG2.out
  have HB2 : Hid (Below w.heap.size w W2) := hB2
  clear HG2 hB2 HC HBlk HBW HLen HV HCS hcsl hone hsrc
  obtain ⟨G, hG⟩ : ∃ G, G = w.heap.size := ⟨_, rfl⟩
  rw [← hG] at HI HZ
  rw [← hG]
  have HGw : Hid (G = w.heap.size) := hG
  clear hG
  have SL : Hid (Sl W2 (some ⟨G, 0, none⟩) vs) := fun _ => ⟨G, 0, rfl, HZ.out, HI.out⟩
  clear HI
  have SLt : Hid (∀ W', Below W2.heap.size W2 W' → Sl W' (some ⟨G, 0, none⟩) (vs.take k)) := fun W' hb => (SL.out.below hb).take k
  have SLd : Hid (∀ W' ao, (n ≠ k → ao = some ⟨G, k, none⟩) → Below W2.heap.size W2 W' → Sl W' ao (vs.drop k)) := fun W' ao h hb => by
    by_cases e : n = k
    · exact Sl.nil _ _ (by rw [List.drop_eq_nil_iff, HL.out]; omega)
    · rw [h e]; exact (SL.out.below hb).drop HL.out
  have hdl : Hid ((I64 (vs.drop k)).length = n - k) := by show _ = _; rw [I64_length, List.length_drop, HL.out]
  have htl : Hid ((I64 (vs.take k)).length = k) := by show _ = _; rw [I64_length, List.length_take, HL.out]; omega
  have hzw : w.heap.size ≤ W2.heap.size := by have := HZ.out; have := HGw.out; omega
  obtain ⟨R, hR⟩ : ∃ R, R = W2.heap.size := ⟨_, rfl⟩
  rw [← hR] at SLt SLd hzw
  have HR : Hid (R = W2.heap.size) := hR
  clear hR
  have hdn : n = k ∨ ¬ n = k := by omega
  rcases hdn with hne | hne
  · subst hne
    go_wp2_with (first
      | (at_make; refine wpList_make_own _ rfl (.const (.int .i64 0)) (.tmp 57) 22 rfl R 3 i0 _ 1 Try.underlying22 hi hz0 hz1 .i64 .i64 _ n rfl rfl rfl (by rw [hz2]; omega) (by unfold maxLen; omega) (Nat.le_of_eq HR.out) ?_
         intro W3 hown3 hgrow3
         rw [← HR.out] at hown3 ⊢
         have hB3 : Hid (Below R W2 W3) := (Below.refl _ _).grown hgrow3 (Nat.le_of_eq HR.out) (fun _ h => by cases h)
         have hz3 : R ≤ W3.heap.size := Nat.le_trans (Nat.le_of_eq HR.out) hgrow3.size
         clear hgrow3)
      | (at_builtin; refine wpList_append_fits_any _ rfl (.tmp 59) (.tmp 62) 22 rfl R 3 i0 1 Try.underlying22 hi hz1 R 0 n _ rfl hown3 _ _ _ (I64 (vs.drop n)) rfl (by rw [hdl.out]; omega) (by intro h; cases h) ((SLd.out _ _ (by first | exact fun _ => rfl | exact fun h => absurd rfl h) hB3.out).cells) (I64_one _) (by omega) ?_
         intro W4 hown4 hgrow4
         rw [Nat.zero_add, List.nil_append] at hown4
         rw [Nat.zero_add]
         have hB4 : Hid (Below R W2 W4) := grow_below hB3.out hgrow4 hz3 (Nat.le_refl _)
         have hz4 : R ≤ W4.heap.size := Nat.le_trans hz3 hgrow4.size
         clear hown3 hgrow4 hB3 hz3)
      | (at_builtin; refine wpList_append_fits_any _ rfl (.tmp 64) (.tmp 67) 22 rfl R 3 i0 1 Try.underlying22 hi hz1 R _ n _ rfl hown4 _ _ _ (I64 (vs.take n)) rfl (by rw [htl.out]; omega) (by intro h; cases h) ((SLt.out _ hB4.out).cells) (I64_one _) (by omega) ?_
         intro W5 hown5 hgrow5
         have e5 : 0 + n = n := Nat.zero_add n
         rw [e5] at hown5 ⊢
         have hB5 : Hid (Below R W2 W5) := grow_below hB4.out hgrow5 hz4 (Nat.le_refl _)
         have SR : Hid (Sl W5 (some ⟨R, 0, none⟩) (vs.drop n ++ vs.take n)) := sl_of_own hown5 (I64_append _ _)
         have hz5 : R ≤ W5.heap.size := Nat.le_trans hz4 hgrow5.size
         obtain ⟨X, hX⟩ : ∃ X, X = W5.heap.size := ⟨_, rfl⟩
         have HX : Hid (X = W5.heap.size) := hX
         rw [← hX] at hz5
         clear hown4 hgrow5 hB4 hz4 e5 hown5 hX)
      | (at_make; refine wpList_make_own _ rfl (.const (.int .i64 0)) (.tmp 70) 22 rfl X 3 i0 _ 1 Try.underlying22 hi hz0 hz1 .i64 .i64 _ (n + 1) rfl rfl (by omega) (by rw [hz2]; omega) (by unfold maxLen; omega) (Nat.le_of_eq HX.out) ?_
         intro W6 hown6 hgrow6
         rw [← HX.out] at hown6 ⊢
         have hB6 : Hid (Below X W5 W6) := (Below.refl _ _).grown hgrow6 (Nat.le_of_eq HX.out) (fun _ h => by cases h)
         have hC6 : Hid (Below R W2 W6) := hB5.out.trans (hB6.out.mono hz5)
         have hz6 : X ≤ W6.heap.size := Nat.le_trans (Nat.le_of_eq HX.out) hgrow6.size
         clear hgrow6)
      | (at_builtin; refine wpList_append_fits_any _ rfl (.tmp 72) (.tmp 75) 22 rfl X 3 i0 1 Try.underlying22 hi hz1 X 0 (n + 1) _ rfl hown6 _ _ _ (I64 (vs.take n)) rfl (by rw [htl.out]; omega) (by intro h; cases h) ((SLt.out _ hC6.out).cells) (I64_one _) (by omega) ?_
         intro W7 hown7 hgrow7
         rw [Nat.zero_add, List.nil_append] at hown7
         rw [Nat.zero_add]
         have hB7 : Hid (Below X W5 W7) := grow_below hB6.out hgrow7 hz6 (Nat.le_refl _)
         have hz7 : X ≤ W7.heap.size := Nat.le_trans hz6 hgrow7.size
         clear hown6 hgrow7 hB6 hC6 hz6)
      | (at_builtin; refine wpList_append_fits _ rfl (.tmp 77) (.tmp 79) 22 rfl X 3 i0 1 Try.underlying22 hi hz1 X _ (n + 1) _ rfl (hown7.alloc _) ⟨W7.heap.size, 0, none⟩ 1 1 [.int .i64 x] rfl rfl (cell_one_new _ _ _) (I64_one [x]) (by omega) ?_
         intro W8 hown8 hgrow8
         have hB8 : Hid (Below X W5 W8) := grow_below (hB7.out.alloc hz7 _) hgrow8 (by simp; omega) (Nat.le_refl _)
         have hC8 : Hid (Below R W2 W8) := hB5.out.trans (hB8.out.mono hz5)
         have hz8 : X ≤ W8.heap.size := Nat.le_trans (by simp; omega) hgrow8.size
         clear hown7 hgrow8 hB7 hz7)
      | (at_builtin; refine wpList_append_fits_any _ rfl (.tmp 81) (.tmp 84) 22 rfl X 3 i0 1 Try.underlying22 hi hz1 X _ (n + 1) _ rfl hown8 _ _ _ (I64 (vs.drop n)) rfl (by rw [hdl.out]; omega) (by intro h; cases h) ((SLd.out _ _ (by first | exact fun _ => rfl | exact fun h => absurd rfl h) hC8.out).cells) (I64_one _) (by omega) ?_
         intro W9 hown9 hgrow9
         have e9 : n + 1 + 0 = n + 1 := rfl
         rw [e9] at hown9 ⊢
         have hB9 : Hid (Below X W5 W9) := grow_below hB8.out hgrow9 hz8 (Nat.le_refl _)
         have SX : Hid (Sl W9 (some ⟨X, 0, none⟩) (vs.take n ++ [x] ++ vs.drop n)) := sl_of_own hown9 (by rw [← I64_append, ← I64_append]; rfl)
         clear hown8 hgrow9 hB8 hC8 hz8 e9 hown9))
    have SL9 : Hid (Sl W9 (some ⟨G, 0, none⟩) vs) := SL.out.below (by rw [← HR.out]; exact hB5.out.trans (hB9.out.mono hz5))
    have SR9 : Hid (Sl W9 (some ⟨R, 0, none⟩) (vs.drop n ++ vs.take n)) := SR.out.below (by rw [← HX.out]; exact hB9.out)
    have HB9 : Hid (Below w.heap.size w W9) := HB2.out.trans ((hB5.out.trans (hB9.out.mono hz5)).mono hzw)
    have hrl : Hid ((vs.drop n ++ vs.take n).length = n) := by show _ = _; rw [List.length_append, List.length_drop, List.length_take, HL.out]; omega
    have hil : Hid ((vs.take n ++ [x] ++ vs.drop n).length = n + 1) := by show _ = _; rw [List.length_append, List.length_append, List.length_drop, List.length_take, HL.out]; simp
    clear SL SR hB5 hB9 SLt SLd hdl htl HB2 HZ HGw HR HX hi hz0 hz1 hz2
    refine (zz' _ _ _ _ _ _ _ _ vs _ HL.out SL9.out (by omega)).mono ?_
    rintro e w3 ⟨rfl, hb3⟩
    have HB3 : Hid (Below w.heap.size w w3) := HB9.out.trans (hb3.mono HB9.out.size)
    have SR3 : Hid (Sl w3 (some ⟨R, 0, none⟩) (vs.drop n ++ vs.take n)) := SR9.out.below hb3
    have SX3 : Hid (Sl w3 (some ⟨X, 0, none⟩) (vs.take n ++ [x] ++ vs.drop n)) := SX.out.below hb3
    clear hb3 SL9 SR9 SX HB9
    have HM2 : Hid (minL prop (vs.drop n ++ vs.take n) = minL prop vs) := minL_rot _ _ _
    have HM3 : Hid (minL prop (vs.take n ++ [x] ++ vs.drop n) = min x (minL prop vs)) := minL_ins _ _ _ _
    generalize minL prop vs = M at HM2 HM3 ⊢
    go_wp2_with fail
    refine (zz' _ _ _ _ _ _ _ _ _ _ hrl.out (SR3.out.below (below_alloc _ _)) (by omega)).mono ?_
    rintro e w4 ⟨rfl, hb4⟩
    rw [HM2.out]
    have O1 : Hid (Out w4 w3.heap.size M) := (Out.new w3 M).below hb4
    have SX4 : Hid (Sl w4 (some ⟨X, 0, none⟩) (vs.take n ++ [x] ++ vs.drop n)) := (SX3.out.below (below_alloc _ _)).below hb4
    have HB4 : Hid (Below w.heap.size w w4) := (HB3.out.trans ((below_alloc w3 _).mono HB3.out.size)).trans (hb4.mono (by have := HB3.out.size; simp; omega))
    clear hb4 SR3 SX3 HB3
    go_wp2_with fail
    refine (zz' _ _ _ _ _ _ _ _ _ _ hil.out (SX4.out.below (below_alloc _ _)) (by omega)).mono ?_
    rintro e w5 ⟨rfl, hb5⟩
    rw [HM3.out]
    obtain ⟨N, hN⟩ : ∃ N, N = min x M := ⟨_, rfl⟩
    rw [← hN]
    have O1' : Hid (Out w5 w3.heap.size M) := (O1.out.below (below_alloc _ _)).below hb5
    have O2 : Hid (Out w5 w4.heap.size M) := (Out.new w4 M).below hb5
    have HB5 : Hid (Below w.heap.size w (w5.alloc (Obj.cells #[Value.bool true, Value.int IntKind.i64 N, Value.bool true] 25))) :=
      ((HB4.out.trans ((below_alloc w4 _).mono HB4.out.size)).trans (hb5.mono (by have := HB4.out.size; simp; omega))).alloc (by have := HB4.out.size; have := hb5.size; simp at this; omega) _
    have q1 := O1'.out.below (below_alloc w5 (Obj.cells #[Value.bool true, Value.int IntKind.i64 N, Value.bool true] 25))
    have q2 := O2.out.below (below_alloc w5 (Obj.cells #[Value.bool true, Value.int IntKind.i64 N, Value.bool true] 25))
    have q3 := Out.new w5 N
    clear hb5 O1 O1' O2 SX4 HB4 HM2 HM3 hrl hil
    obtain ⟨q10, q11, q12⟩ := q1
    obtain ⟨q20, q21, q22⟩ := q2
    obtain ⟨q30, q31, q32⟩ := q3
    have hcase : (x < M ∧ N = x) ∨ (M ≤ x ∧ N = M) := by omega
    clear hN
    rcases hcase with ⟨hx, rfl⟩ | ⟨hx, rfl⟩
    all_goals
      go_wp2
      go_ret
      exact ⟨rfl, HB5.out⟩
  · go_wp2_with (first
      | (at_make; refine wpList_make_own _ rfl (.const (.int .i64 0)) (.tmp 57) 22 rfl R 3 i0 _ 1 Try.underlying22 hi hz0 hz1 .i64 .i64 _ n rfl rfl rfl (by rw [hz2]; omega) (by unfold maxLen; omega) (Nat.le_of_eq HR.out) ?_
         intro W3 hown3 hgrow3
         rw [← HR.out] at hown3 ⊢
         have hB3 : Hid (Below R W2 W3) := (Below.refl _ _).grown hgrow3 (Nat.le_of_eq HR.out) (fun _ h => by cases h)
         have hz3 : R ≤ W3.heap.size := Nat.le_trans (Nat.le_of_eq HR.out) hgrow3.size
         clear hgrow3)
      | (at_builtin; refine wpList_append_fits_any _ rfl (.tmp 59) (.tmp 62) 22 rfl R 3 i0 1 Try.underlying22 hi hz1 R 0 n _ rfl hown3 _ _ _ (I64 (vs.drop k)) rfl (by rw [hdl.out]; omega) (by intro h; cases h) ((SLd.out _ _ (by first | exact fun _ => rfl | exact fun h => absurd rfl h) hB3.out).cells) (I64_one _) (by omega) ?_
         intro W4 hown4 hgrow4
         rw [Nat.zero_add, List.nil_append] at hown4
         rw [Nat.zero_add]
         have hB4 : Hid (Below R W2 W4) := grow_below hB3.out hgrow4 hz3 (Nat.le_refl _)
         have hz4 : R ≤ W4.heap.size := Nat.le_trans hz3 hgrow4.size
         clear hown3 hgrow4 hB3 hz3)
      | (at_builtin; refine wpList_append_fits_any _ rfl (.tmp 64) (.tmp 67) 22 rfl R 3 i0 1 Try.underlying22 hi hz1 R _ n _ rfl hown4 _ _ _ (I64 (vs.take k)) rfl (by rw [htl.out]; omega) (by intro h; cases h) ((SLt.out _ hB4.out).cells) (I64_one _) (by omega) ?_
         intro W5 hown5 hgrow5
         have e5 : n - k + k = n := by omega
         rw [e5] at hown5 ⊢
         have hB5 : Hid (Below R W2 W5) := grow_below hB4.out hgrow5 hz4 (Nat.le_refl _)
         have SR : Hid (Sl W5 (some ⟨R, 0, none⟩) (vs.drop k ++ vs.take k)) := sl_of_own hown5 (I64_append _ _)
         have hz5 : R ≤ W5.heap.size := Nat.le_trans hz4 hgrow5.size
         obtain ⟨X, hX⟩ : ∃ X, X = W5.heap.size := ⟨_, rfl⟩
         have HX : Hid (X = W5.heap.size) := hX
         rw [← hX] at hz5
         clear hown4 hgrow5 hB4 hz4 e5 hown5 hX)
      | (at_make; refine wpList_make_own _ rfl (.const (.int .i64 0)) (.tmp 70) 22 rfl X 3 i0 _ 1 Try.underlying22 hi hz0 hz1 .i64 .i64 _ (n + 1) rfl rfl (by omega) (by rw [hz2]; omega) (by unfold maxLen; omega) (Nat.le_of_eq HX.out) ?_
         intro W6 hown6 hgrow6
         rw [← HX.out] at hown6 ⊢
         have hB6 : Hid (Below X W5 W6) := (Below.refl _ _).grown hgrow6 (Nat.le_of_eq HX.out) (fun _ h => by cases h)
         have hC6 : Hid (Below R W2 W6) := hB5.out.trans (hB6.out.mono hz5)
         have hz6 : X ≤ W6.heap.size := Nat.le_trans (Nat.le_of_eq HX.out) hgrow6.size
         clear hgrow6)
      | (at_builtin; refine wpList_append_fits_any _ rfl (.tmp 72) (.tmp 75) 22 rfl X 3 i0 1 Try.underlying22 hi hz1 X 0 (n + 1) _ rfl hown6 _ _ _ (I64 (vs.take k)) rfl (by rw [htl.out]; omega) (by intro h; cases h) ((SLt.out _ hC6.out).cells) (I64_one _) (by omega) ?_
         intro W7 hown7 hgrow7
         rw [Nat.zero_add, List.nil_append] at hown7
         rw [Nat.zero_add]
         have hB7 : Hid (Below X W5 W7) := grow_below hB6.out hgrow7 hz6 (Nat.le_refl _)
         have hz7 : X ≤ W7.heap.size := Nat.le_trans hz6 hgrow7.size
         clear hown6 hgrow7 hB6 hC6 hz6)
      | (at_builtin; refine wpList_append_fits _ rfl (.tmp 77) (.tmp 79) 22 rfl X 3 i0 1 Try.underlying22 hi hz1 X _ (n + 1) _ rfl (hown7.alloc _) ⟨W7.heap.size, 0, none⟩ 1 1 [.int .i64 x] rfl rfl (cell_one_new _ _ _) (I64_one [x]) (by omega) ?_
         intro W8 hown8 hgrow8
         have hB8 : Hid (Below X W5 W8) := grow_below (hB7.out.alloc hz7 _) hgrow8 (by simp; omega) (Nat.le_refl _)
         have hC8 : Hid (Below R W2 W8) := hB5.out.trans (hB8.out.mono hz5)
         have hz8 : X ≤ W8.heap.size := Nat.le_trans (by simp; omega) hgrow8.size
         clear hown7 hgrow8 hB7 hz7)
      | (at_builtin; refine wpList_append_fits_any _ rfl (.tmp 81) (.tmp 84) 22 rfl X 3 i0 1 Try.underlying22 hi hz1 X _ (n + 1) _ rfl hown8 _ _ _ (I64 (vs.drop k)) rfl (by rw [hdl.out]; omega) (by intro h; cases h) ((SLd.out _ _ (by first | exact fun _ => rfl | exact fun h => absurd rfl h) hC8.out).cells) (I64_one _) (by omega) ?_
         intro W9 hown9 hgrow9
         have e9 : k + 1 + (n - k) = n + 1 := by omega
         rw [e9] at hown9 ⊢
         have hB9 : Hid (Below X W5 W9) := grow_below hB8.out hgrow9 hz8 (Nat.le_refl _)
         have SX : Hid (Sl W9 (some ⟨X, 0, none⟩) (vs.take k ++ [x] ++ vs.drop k)) := sl_of_own hown9 (by rw [← I64_append, ← I64_append]; rfl)
         clear hown8 hgrow9 hB8 hC8 hz8 e9 hown9))
    have SL9 : Hid (Sl W9 (some ⟨G, 0, none⟩) vs) := SL.out.below (by rw [← HR.out]; exact hB5.out.trans (hB9.out.mono hz5))
    have SR9 : Hid (Sl W9 (some ⟨R, 0, none⟩) (vs.drop k ++ vs.take k)) := SR.out.below (by rw [← HX.out]; exact hB9.out)
    have HB9 : Hid (Below w.heap.size w W9) := HB2.out.trans ((hB5.out.trans (hB9.out.mono hz5)).mono hzw)
    have hrl : Hid ((vs.drop k ++ vs.take k).length = n) := by show _ = _; rw [List.length_append, List.length_drop, List.length_take, HL.out]; omega
    have hil : Hid ((vs.take k ++ [x] ++ vs.drop k).length = n + 1) := by show _ = _; rw [List.length_append, List.length_append, List.length_drop, List.length_take, HL.out]; simp; omega
    clear SL SR hB5 hB9 SLt SLd hdl htl HB2 HZ HGw HR HX hi hz0 hz1 hz2
    refine (zz' _ _ _ _ _ _ _ _ vs _ HL.out SL9.out (by omega)).mono ?_
    rintro e w3 ⟨rfl, hb3⟩
    have HB3 : Hid (Below w.heap.size w w3) := HB9.out.trans (hb3.mono HB9.out.size)
    have SR3 : Hid (Sl w3 (some ⟨R, 0, none⟩) (vs.drop k ++ vs.take k)) := SR9.out.below hb3
    have SX3 : Hid (Sl w3 (some ⟨X, 0, none⟩) (vs.take k ++ [x] ++ vs.drop k)) := SX.out.below hb3
    clear hb3 SL9 SR9 SX HB9
    have HM2 : Hid (minL prop (vs.drop k ++ vs.take k) = minL prop vs) := minL_rot _ _ _
    have HM3 : Hid (minL prop (vs.take k ++ [x] ++ vs.drop k) = min x (minL prop vs)) := minL_ins _ _ _ _
    generalize minL prop vs = M at HM2 HM3 ⊢
    go_wp2_with fail
    refine (zz' _ _ _ _ _ _ _ _ _ _ hrl.out (SR3.out.below (below_alloc _ _)) (by omega)).mono ?_
    rintro e w4 ⟨rfl, hb4⟩
    rw [HM2.out]
    have O1 : Hid (Out w4 w3.heap.size M) := (Out.new w3 M).below hb4
    have SX4 : Hid (Sl w4 (some ⟨X, 0, none⟩) (vs.take k ++ [x] ++ vs.drop k)) := (SX3.out.below (below_alloc _ _)).below hb4
    have HB4 : Hid (Below w.heap.size w w4) := (HB3.out.trans ((below_alloc w3 _).mono HB3.out.size)).trans (hb4.mono (by have := HB3.out.size; simp; omega))
    clear hb4 SR3 SX3 HB3
    go_wp2_with fail
    refine (zz' _ _ _ _ _ _ _ _ _ _ hil.out (SX4.out.below (below_alloc _ _)) (by omega)).mono ?_
    rintro e w5 ⟨rfl, hb5⟩
    rw [HM3.out]
    obtain ⟨N, hN⟩ : ∃ N, N = min x M := ⟨_, rfl⟩
    rw [← hN]
    have O1' : Hid (Out w5 w3.heap.size M) := (O1.out.below (below_alloc _ _)).below hb5
    have O2 : Hid (Out w5 w4.heap.size M) := (Out.new w4 M).below hb5
    have HB5 : Hid (Below w.heap.size w (w5.alloc (Obj.cells #[Value.bool true, Value.int IntKind.i64 N, Value.bool true] 25))) :=
      ((HB4.out.trans ((below_alloc w4 _).mono HB4.out.size)).trans (hb5.mono (by have := HB4.out.size; simp; omega))).alloc (by have := HB4.out.size; have := hb5.size; simp at this; omega) _
    have q1 := O1'.out.below (below_alloc w5 (Obj.cells #[Value.bool true, Value.int IntKind.i64 N, Value.bool true] 25))
    have q2 := O2.out.below (below_alloc w5 (Obj.cells #[Value.bool true, Value.int IntKind.i64 N, Value.bool true] 25))
    have q3 := Out.new w5 N
    clear hb5 O1 O1' O2 SX4 HB4 HM2 HM3 hrl hil
    obtain ⟨q10, q11, q12⟩ := q1
    obtain ⟨q20, q21, q22⟩ := q2
    obtain ⟨q30, q31, q32⟩ := q3
    have hcase : (x < M ∧ N = x) ∨ (M ≤ x ∧ N = M) := by omega
    clear hN
    rcases hcase with ⟨hx, rfl⟩ | ⟨hx, rfl⟩
    all_goals
      go_wp2
      go_ret
      exact ⟨rfl, HB5.out⟩

end Go.Proofs.Qxb6614944a
