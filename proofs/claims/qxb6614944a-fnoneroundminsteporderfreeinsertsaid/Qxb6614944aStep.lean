/-
  The walk of (*oneRoundMin).Step (seat b6614944a).
-/
import Derived.Test.Qxb6614944aRows
import Derived.WalkKit
import Derived.WalkSpells
import Derived.WalkLawsBesides
namespace Go.Proofs.Qxb6614944a
open Go.RowKit

/-- The least of p and the values of l. -/
def minL (p : Int) (l : List Int) : Int := l.foldl min p

/-- Block g holds the messages of the values vs. -/
def Msgs (w : World) (g : Nat) (rd : Int) (vs : List Int) : Prop := ∀ j, j < vs.length →
  w.cell? ⟨g, j * 3, none⟩ = some (.int .i64 ((j : Int) + 1)) ∧ w.cell? ⟨g, j * 3 + 1, none⟩ = some (.int .i64 rd) ∧ w.cell? ⟨g, j * 3 + 2, none⟩ = some (.iface 30 (.agg #[.int .i64 (vs.getD j 0)]))

theorem assert30 (v : Int) (w : World) : (Instr.typeAssert (.iface 30 (.agg #[.int .i64 v])) 20 30 false).run Try.prog w = .ok (.agg #[.int .i64 v]) w := by kernel_rfl

theorem field30 (v : Int) (w : World) : (Instr.field 30 (.agg #[.int .i64 v]) 0).run Try.prog w = .ok (.int .i64 v) w := by kernel_rfl

theorem minL_snoc (p : Int) (l : List Int) (v : Int) : minL p (l ++ [v]) = min (minL p l) v := by simp [minL]
theorem min_if (M v : Int) : Value.int .i64 (if v < M then v else M) = Value.int .i64 (min M v) := by
  congr 1; omega
theorem take_snoc (vs : List Int) (k : Nat) (h : k < vs.length) : vs.take (k + 1) = vs.take k ++ [vs.getD k 0] := by
  rw [List.take_succ_eq_append_getElem h]
  simp [h]

set_option maxHeartbeats 1000000 in
set_option maxRecDepth 100000 in
theorem step (P g cap : Nat) (prop rd : Int) (vs : List Int) (w : World) (hP : P < w.heap.size) (hp : w.cell? ⟨P, 3, none⟩ = some (.int .i64 prop)) (hn : vs.length ≤ 100000) (hg : g < w.heap.size) (hm : Msgs w g rd vs) :
    Calls Try.prog 25 #[.pointer (some ⟨P, 0, none⟩), .int .i64 rd, .slice (some ⟨g, 0, none⟩) vs.length cap] w fun e w' => e = .returned (.agg #[.bool true, .int .i64 (minL prop vs), .bool true]) ∧ Below w.heap.size w w' := by
  have HM : Hid (Msgs w g rd vs) := hm
  clear hm
  generalize hl : vs.length = n at *
  have HL : Hid (vs.length = n) := hl
  clear hl
  have hta := assert30
  have hfi := field30
  go_enter Try.func25, Try.ntmps25
  go_wp2
  obtain ⟨W, hW⟩ : ∃ W, W = w.alloc (Obj.cells #[Value.bool false, Value.int IntKind.i64 0, Value.bool false] 25) := ⟨_, rfl⟩
  have HR : Hid (W.heap[w.heap.size]? = some (.cells #[Value.bool false, Value.int IntKind.i64 0, Value.bool false] 25 (0, 0))) := by rw [hW]; exact heap_alloc_new w _
  have HB : Hid (Below w.heap.size w W) := by rw [hW]; exact (Below.refl _ w).alloc (Nat.le_refl _) _
  have hS : W.heap.size = w.heap.size + 1 := by rw [hW]; simp
  rw [← hW]
  clear hW
  go_loopw [7, 17] (fun sm i wr => ∃ k : Nat, k ≤ n ∧ i = .int .i64 k ∧ sm = .int .i64 (minL prop (vs.take k)) ∧ Below (w.heap.size + 1) W wr) (fun _ i _ => n - (intOf i).toNat)
  case atStart => exact ⟨0, Nat.zero_le _, rfl, rfl, Below.refl _ _⟩
  case round =>
    obtain ⟨k, hk, rfl, rfl, hb⟩ := hrel
    have hB2 : Below w.heap.size w wr := HB.out.trans (hb.mono (Nat.le_succ _))
    by_cases hlt : k < n
    · obtain ⟨m1, m2, m3⟩ := HM.out k (by rw [HL.out]; exact hlt)
      have c1 : wr.cell? ⟨g, k * 3, none⟩ = some (.int .i64 ((k : Int) + 1)) := (hB2.cell (p := ⟨g, k * 3, none⟩) hg).trans m1
      have c2 : wr.cell? ⟨g, k * 3 + 1, none⟩ = some (.int .i64 rd) := (hB2.cell (p := ⟨g, k * 3 + 1, none⟩) hg).trans m2
      have c3 : wr.cell? ⟨g, k * 3 + 2, none⟩ = some (.iface 30 (.agg #[.int .i64 (vs.getD k 0)])) := (hB2.cell (p := ⟨g, k * 3 + 2, none⟩) hg).trans m3
      generalize hv : vs.getD k 0 = v at c3
      generalize hM : minL prop (vs.take k) = M
      have HV : Hid (vs.getD k 0 = v) := hv
      have HMm : Hid (minL prop (vs.take k) = M) := hM
      clear m1 m2 m3 hv hM
      have HBr : Hid (Below (w.heap.size + 1) W wr) := hb
      have hS2 : w.heap.size + 1 ≤ wr.heap.size := by have := hb.size; omega
      clear hb hB2 hS
      go_wp2
      go_roundw
      case rel =>
        refine ⟨k + 1, by omega, by go_num, ?_, HBr.out.alloc hS2 _⟩
        rw [take_snoc vs k (by rw [HL.out]; exact hlt), minL_snoc, HMm.out, HV.out, min_if]
      case measure => simp [intOf]; omega
    · have hkn : k = n := by omega
      have hbk : wr.heap[w.heap.size]? = some (.cells #[Value.bool false, Value.int IntKind.i64 0, Value.bool false] 25 (0, 0)) := (hb.block _ (Nat.lt_succ_self _)).trans HR.out
      have r0 : wr.cell? ⟨w.heap.size, 0, none⟩ = some (.bool false) := cell_of_row wr _ 0 _ _ _ hbk
      have r1 : wr.cell? ⟨w.heap.size, 1, none⟩ = some (.int .i64 0) := cell_of_row wr _ 1 _ _ _ hbk
      have r2 : wr.cell? ⟨w.heap.size, 2, none⟩ = some (.bool false) := cell_of_row wr _ 2 _ _ _ hbk
      have f0 : wr.frozen? ⟨w.heap.size, 0, none⟩ = false := by simp [World.frozen?, hbk]
      have f1 : wr.frozen? ⟨w.heap.size, 1, none⟩ = false := by simp [World.frozen?, hbk]
      have f2 : wr.frozen? ⟨w.heap.size, 2, none⟩ = false := by simp [World.frozen?, hbk]
      have hfin : Hid (minL prop (vs.take k) = minL prop vs) := by
        show _ = _
        rw [hkn, List.take_of_length_le (by rw [HL.out]; exact Nat.le_refl _)]
      generalize hM : minL prop (vs.take k) = M at hfin ⊢
      clear hM hkn hbk
      have HB3 : Hid (Below w.heap.size w wr) := hB2
      clear hB2 hb hS
      go_wp2
      refine bodyPost_ret (v := .agg #[.bool true, .int .i64 M, .bool true]) (by simp [results, Try.results25, go_sem, r0, r1, r2]) rfl ⟨?_, ?_⟩
      · rw [hfin.out]
      · exact ((HB3.out.setCell (p := ⟨w.heap.size, 0, none⟩) (Nat.le_refl _) _).setCell (p := ⟨w.heap.size, 1, none⟩) (Nat.le_refl _) _).setCell (p := ⟨w.heap.size, 2, none⟩) (Nat.le_refl _) _

end Go.Proofs.Qxb6614944a
