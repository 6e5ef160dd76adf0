/-
  The walks of newOneRoundMin and ZZstepOneRoundMin (seat b6614944a).
-/
import Derived.Test.Qxb6614944aStep
import Derived.Deep.MidRow
namespace Go.Proofs.Qxb6614944a
open Go.RowKit

set_option maxHeartbeats 400000 in
theorem newP (id n t prop : Int) (w : World) :
    Calls Try.prog 8 #[.agg #[.int .i64 id, .int .i64 n, .int .i64 t, .int .i64 prop]] w fun e w' => e = .returned (.iface 39 (.pointer (some ⟨w.heap.size + 1, 0, none⟩))) ∧
      w' = (w.alloc (.cells #[.int .i64 id, .int .i64 n, .int .i64 t, .int .i64 prop] 37)).alloc (.cells #[.int .i64 id, .int .i64 n, .int .i64 t, .int .i64 prop] 41) := by
  go_enter Try.func8, Try.ntmps8
  go_wp2
  go_ret
  exact ⟨rfl, rfl⟩

theorem method_step (a : Addr) (w : World) : (method 163 39 (.pointer (some a)) "Step").run Try.prog w = .ok (25, .pointer (some a)) w := by kernel_rfl

theorem cell_new (w : World) (cs : Array Value) (t : TypeId) (j : Nat) (u : Value) (h : cs[j]? = some u) : (w.alloc (.cells cs t)).cell? ⟨w.heap.size, j, none⟩ = some u := by
  have hh := heap_alloc_new w (Obj.cells cs t)
  simp only [World.cell?, hh, h, Option.isSome_none, Bool.false_eq_true, if_false]

theorem res_facts {w : World} {g : Nat} (hbk : w.heap[g]? = some (.cells #[Value.bool false, Value.int IntKind.i64 0, Value.bool false] 25 (0, 0))) :
    w.cell? ⟨g, 0, none⟩ = some (.bool false) ∧ w.cell? ⟨g, 1, none⟩ = some (.int .i64 0) ∧ w.cell? ⟨g, 2, none⟩ = some (.bool false) ∧ w.frozen? ⟨g, 0, none⟩ = false ∧ w.frozen? ⟨g, 1, none⟩ = false ∧ w.frozen? ⟨g, 2, none⟩ = false :=
  ⟨cell_of_row w _ 0 _ _ _ hbk, cell_of_row w _ 1 _ _ _ hbk, cell_of_row w _ 2 _ _ _ hbk, by simp [World.frozen?, hbk], by simp [World.frozen?, hbk], by simp [World.frozen?, hbk]⟩

theorem info32 : (Try.prog.info? 32).map (fun i => (i.zero, i.size, i.bytes)) = some (some (.agg #[.int .i64 0, .int .i64 0, .nilIface]), 3, 32) := by kernel_rfl

/-- Slices of integers that came in or were made. -/
def IntsAt (w : World) (b o : Nat) (vs : List Int) : Prop := ∀ j, j < vs.length → w.cell? ⟨b, o + j, none⟩ = some (.int .i64 (vs.getD j 0))
def Sl (w : World) (ao : Option Addr) (vs : List Int) : Prop := vs ≠ [] → ∃ b o, ao = some ⟨b, o, none⟩ ∧ b < w.heap.size ∧ IntsAt w b o vs

theorem Sl.below {w w' : World} {ao : Option Addr} {vs : List Int} (h : Sl w ao vs) (hb : Below w.heap.size w w') : Sl w' ao vs := fun hne => by
  obtain ⟨b, o, e, hlt, hc⟩ := h hne
  exact ⟨b, o, e, by have := hb.size; omega, fun j hj => (hb.cell (p := ⟨b, o + j, none⟩) hlt).trans (hc j hj)⟩

/-- The first k messages lie in block g. -/
def MsgsUp (w : World) (g : Nat) (rd : Int) (vs : List Int) (k : Nat) : Prop := ∀ j, j < k →
  w.cell? ⟨g, j * 3, none⟩ = some (.int .i64 ((j : Int) + 1)) ∧ w.cell? ⟨g, j * 3 + 1, none⟩ = some (.int .i64 rd) ∧ w.cell? ⟨g, j * 3 + 2, none⟩ = some (.iface 30 (.agg #[.int .i64 (vs.getD j 0)]))
/-- m cells are there in block g, and may be written. -/
def There (w : World) (g m : Nat) : Prop := ∀ j, j < m → (∃ x, w.cell? ⟨g, j, none⟩ = some x) ∧ w.frozen? ⟨g, j, none⟩ = false

theorem There.set {w : World} {g m : Nat} (h : There w g m) (a : Addr) (v : Value) : There (w.setCell a v) g m := fun j hj => by
  obtain ⟨⟨x, hx⟩, hf⟩ := h j hj
  refine ⟨?_, by rw [World.frozen?_setCell]; exact hf⟩
  by_cases e : a = ⟨g, j, none⟩
  · subst e; exact ⟨v, World.cell?_setCell_same _ _ _ hx⟩
  · exact ⟨x, by rw [World.cell?_setCell_other _ _ _ _ e]; exact hx⟩

theorem set_same {w : World} {g m j : Nat} (h : There w g m) (hj : j < m) (v : Value) : (w.setCell ⟨g, j, none⟩ v).cell? ⟨g, j, none⟩ = some v := by
  obtain ⟨⟨x, hx⟩, _⟩ := h j hj
  exact World.cell?_setCell_same _ _ _ hx
theorem set_other {w : World} {g i j : Nat} (h : i ≠ j) (v : Value) : (w.setCell ⟨g, i, none⟩ v).cell? ⟨g, j, none⟩ = w.cell? ⟨g, j, none⟩ :=
  World.cell?_setCell_other _ _ _ _ (fun e => h (congrArg Addr.off e))

theorem msgs_step {w : World} {g n k : Nat} {rd : Int} {vs : List Int} (hk : k < n) (hm : MsgsUp w g rd vs k) (ht : There w g (n * 3)) :
    MsgsUp (((w.setCell ⟨g, k * 3, none⟩ (.int .i64 ((k : Int) + 1))).setCell ⟨g, k * 3 + 1, none⟩ (.int .i64 rd)).setCell ⟨g, k * 3 + 2, none⟩ (.iface 30 (.agg #[.int .i64 (vs.getD k 0)]))) g rd vs (k + 1) ∧
    There (((w.setCell ⟨g, k * 3, none⟩ (.int .i64 ((k : Int) + 1))).setCell ⟨g, k * 3 + 1, none⟩ (.int .i64 rd)).setCell ⟨g, k * 3 + 2, none⟩ (.iface 30 (.agg #[.int .i64 (vs.getD k 0)]))) g (n * 3) := by
  refine ⟨fun j hj => ?_, ((ht.set _ _).set _ _).set _ _⟩
  by_cases e : j = k
  · subst e
    refine ⟨?_, ?_, ?_⟩
    · rw [set_other (by omega), set_other (by omega), set_same ht (by omega)]
    · rw [set_other (by omega), set_same (ht.set _ _) (by omega)]
    · rw [set_same ((ht.set _ _).set _ _) (by omega)]
  · obtain ⟨h1, h2, h3⟩ := hm j (by omega)
    refine ⟨?_, ?_, ?_⟩
    · rw [set_other (by omega), set_other (by omega), set_other (by omega)]; exact h1
    · rw [set_other (by omega), set_other (by omega), set_other (by omega)]; exact h2
    · rw [set_other (by omega), set_other (by omega), set_other (by omega)]; exact h3

set_option maxHeartbeats 1000000 in
set_option maxRecDepth 100000 in
theorem zz (id nn t prop rd : Int) (ao : Option Addr) (cap : Nat) (vs : List Int) (w : World) (hs : Sl w ao vs) (hn : vs.length ≤ 100000) :
    Calls Try.prog 6 #[.int .i64 id, .int .i64 nn, .int .i64 t, .int .i64 prop, .int .i64 rd, .slice ao vs.length cap] w fun e w' => e = .returned (.agg #[.bool true, .int .i64 (minL prop vs), .bool true]) ∧ Below w.heap.size w w' := by
  obtain ⟨i0, hi, hz0, hz1, hz2⟩ := info_parts info32
  have HS : Hid (Sl w ao vs) := hs
  clear hs
  generalize hl : vs.length = n at *
  have HL : Hid (vs.length = n) := hl
  clear hl
  go_enter Try.func6, Try.ntmps6
  go_wp2_with (at_make; refine wpList_make_full _ rfl (.tmp 16) (.tmp 16) 28 rfl (w.heap.size + 1) 32 i0 _ 3 Try.underlying28 hi hz0 hz1 .i64 .i64 _ _ n rfl rfl rfl rfl (by rw [hz2]; omega) (by unfold maxLen; omega) (by simp) ?_)
  intro W hown hgrow
  have BW : Below (w.heap.size + 1) (w.alloc (Obj.cells #[Value.bool false, Value.int IntKind.i64 0, Value.bool false] 25)) W := (Below.refl _ _).grown hgrow (by simp) (fun k hk => by cases hk)
  have HR : Hid (W.heap[w.heap.size]? = some (.cells #[Value.bool false, Value.int IntKind.i64 0, Value.bool false] 25 (0, 0))) := (BW.block _ (Nat.lt_succ_self _)).trans (heap_alloc_new w _)
  have HB : Hid (Below w.heap.size w W) := ((Below.refl _ w).alloc (Nat.le_refl _) _).trans (BW.mono (Nat.le_succ _))
  have HG : Hid (w.heap.size + 1 < W.heap.size) := (hown.lt (w.heap.size + 1) rfl).2
  have HT : Hid (There W (w.heap.size + 1) (n * 3)) := fun j hj => by
    have hx := hown.1
    refine ⟨?_, hown.frozenAt j⟩
    rw [hown.cellAt j hj, List.getElem?_eq_getElem (by omega)]
    exact ⟨_, rfl⟩
  clear hown hgrow BW
  go_wp2
  go_loopw [20] (fun i wr => ∃ k : Nat, k ≤ n ∧ i = .int .i64 k ∧ Hid (MsgsUp wr (w.heap.size + 1) rd vs k) ∧ Hid (There wr (w.heap.size + 1) (n * 3)) ∧ Hid (Below (w.heap.size + 1) W wr)) (fun i _ => n - (intOf i).toNat)
  case atStart => exact ⟨0, Nat.zero_le _, rfl, fun j hj => absurd hj (by omega), HT.out, Below.refl _ _⟩
  case round =>
    obtain ⟨k, hk, rfl, hm, ht, hb⟩ := hrel
    have hB2 : Hid (Below w.heap.size w wr) := HB.out.trans (hb.out.mono (Nat.le_succ _))
    by_cases hlt : k < n
    · obtain ⟨b, o, rfl, hbs, hc⟩ := HS.out (by intro e; have := HL.out; rw [e] at this; simp at this; omega)
      have c : wr.cell? ⟨b, o + k, none⟩ = some (.int .i64 (vs.getD k 0)) := (hB2.out.cell (p := ⟨b, o + k, none⟩) hbs).trans (hc k (by rw [HL.out]; exact hlt))
      obtain ⟨⟨x0, e0⟩, f0⟩ := ht.out (k * 3) (by omega)
      obtain ⟨⟨x1, e1⟩, f1⟩ := ht.out (k * 3 + 1) (by omega)
      obtain ⟨⟨x2, e2⟩, f2⟩ := ht.out (k * 3 + 2) (by omega)
      have R := msgs_step hlt hm.out ht.out
      have HRr : Hid (MsgsUp (((wr.setCell ⟨w.heap.size + 1, k * 3, none⟩ (.int .i64 ((k : Int) + 1))).setCell ⟨w.heap.size + 1, k * 3 + 1, none⟩ (.int .i64 rd)).setCell ⟨w.heap.size + 1, k * 3 + 2, none⟩ (.iface 30 (.agg #[.int .i64 (vs.getD k 0)]))) (w.heap.size + 1) rd vs (k + 1) ∧
        There (((wr.setCell ⟨w.heap.size + 1, k * 3, none⟩ (.int .i64 ((k : Int) + 1))).setCell ⟨w.heap.size + 1, k * 3 + 1, none⟩ (.int .i64 rd)).setCell ⟨w.heap.size + 1, k * 3 + 2, none⟩ (.iface 30 (.agg #[.int .i64 (vs.getD k 0)]))) (w.heap.size + 1) (n * 3)) := R
      clear R hc
      generalize vs.getD k 0 = v at *
      go_wp2
      go_roundw
      case rel => exact ⟨k + 1, by omega, by go_num, HRr.out.1, HRr.out.2, ((hb.out.setCell (p := ⟨w.heap.size + 1, k * 3, none⟩) (Nat.le_refl _) _).setCell (p := ⟨w.heap.size + 1, k * 3 + 1, none⟩) (Nat.le_refl _) _).setCell (p := ⟨w.heap.size + 1, k * 3 + 2, none⟩) (Nat.le_refl _) _⟩
      case measure => simp [intOf]; omega
    · obtain rfl : k = n := by omega
      have hsz : Hid (w.heap.size + 1 < wr.heap.size) := Nat.lt_of_lt_of_le HG.out hb.out.size
      obtain ⟨w5, hw5⟩ : ∃ w5, w5 = (wr.alloc (.cells #[.int .i64 id, .int .i64 nn, .int .i64 t, .int .i64 prop] 37)).alloc (.cells #[.int .i64 id, .int .i64 nn, .int .i64 t, .int .i64 prop] 41) := ⟨_, rfl⟩
      have B5 : Below wr.heap.size wr w5 := by rw [hw5]; exact ((Below.refl _ _).alloc (Nat.le_refl _) _).alloc (by simp) _
      have S5 : w5.heap.size = wr.heap.size + 2 := by rw [hw5]; simp
      have C5 : w5.cell? ⟨wr.heap.size + 1, 3, none⟩ = some (.int .i64 prop) := by
        rw [hw5]
        have := cell_new (wr.alloc (.cells #[.int .i64 id, .int .i64 nn, .int .i64 t, .int .i64 prop] 37)) #[.int .i64 id, .int .i64 nn, .int .i64 t, .int .i64 prop] 41 3 _ rfl
        rwa [World.size_alloc] at this
      have H25 : Hid (Calls Try.prog 25 #[.pointer (some ⟨wr.heap.size + 1, 0, none⟩), .int .i64 rd, .slice (some ⟨w.heap.size + 1, 0, none⟩) k k] w5 fun e w' => e = .returned (.agg #[.bool true, .int .i64 (minL prop vs), .bool true]) ∧ Below w5.heap.size w5 w') := by
        have h := step (wr.heap.size + 1) (w.heap.size + 1) k prop rd vs w5 (by omega) C5 (by rw [HL.out]; exact hn) (by have := hsz.out; omega) (fun j hj => by
          obtain ⟨h1, h2, h3⟩ := hm.out j (by rw [← HL.out]; exact hj)
          exact ⟨(B5.cell (p := ⟨w.heap.size + 1, j * 3, none⟩) hsz.out).trans h1, (B5.cell (p := ⟨w.heap.size + 1, j * 3 + 1, none⟩) hsz.out).trans h2, (B5.cell (p := ⟨w.heap.size + 1, j * 3 + 2, none⟩) hsz.out).trans h3⟩)
        rw [HL.out] at h
        exact h
      have HB5 : Hid (Below w.heap.size w w5) := hB2.out.trans (B5.mono (by have := hsz.out; omega))
      have HR5 : Hid (w5.heap[w.heap.size]? = some (.cells #[Value.bool false, Value.int IntKind.i64 0, Value.bool false] 25 (0, 0))) := (B5.block _ (by have := hsz.out; omega)).trans ((hb.out.block _ (Nat.lt_succ_self _)).trans HR.out)
      have HS5 : Hid (w.heap.size + 1 < w5.heap.size) := by show _ < _; have := hsz.out; omega
      clear B5 S5 C5
      have hme := method_step
      go_wp2_with fail
      refine (newP _ _ _ _ _).mono ?_
      rintro e w1 ⟨rfl, hw1⟩
      obtain rfl : w1 = w5 := hw1.trans hw5.symm
      clear hw1 hw5
      go_wp2_with fail
      refine H25.out.mono ?_
      rintro e w6 ⟨rfl, hb6⟩
      obtain ⟨r0, r1, r2, g0, g1, g2⟩ := res_facts ((hb6.block _ (by have := HS5.out; omega)).trans HR5.out)
      have HB6 : Hid (Below w.heap.size w w6) := HB5.out.trans (hb6.mono (by have := HS5.out; omega))
      clear hb6 hme
      generalize hMm : minL prop vs = M
      have HMm : Hid (minL prop vs = M) := hMm
      clear hMm
      go_wp2
      refine bodyPost_ret (v := .agg #[.bool true, .int .i64 M, .bool true]) (by simp [results, Try.results6, go_sem, r0, r1, r2]) rfl ⟨by rw [HMm.out], ?_⟩
      exact ((HB6.out.setCell (p := ⟨w.heap.size, 0, none⟩) (Nat.le_refl _) _).setCell (p := ⟨w.heap.size, 1, none⟩) (Nat.le_refl _) _).setCell (p := ⟨w.heap.size, 2, none⟩) (Nat.le_refl _) _

end Go.Proofs.Qxb6614944a
