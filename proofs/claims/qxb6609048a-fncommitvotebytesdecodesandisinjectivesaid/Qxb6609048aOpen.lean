/-
  An array of 32 bytes by value, opened (seat b6609048a).
-/
import Derived.Test.Qxb6609048aRows
import Derived.Test.Qxb6609048aPlain
import Derived.WalkKit
import Derived.ProofKit
import Derived.OpenShut
namespace Go.Proofs.Qxb6609048a
open Go.ChangeShapes Go.WideShapes Go.ChangeAt Go.RowKit

theorem cells5 : Try.prog.cellsOf 5 = 1 := by kernel_rfl
theorem cells23 : Try.prog.cellsOf 23 = 32 := by kernel_rfl

theorem cells_ints : ∀ (l : List Value), (∀ i, i < l.length → ∃ z, l[i]? = some (.int .u8 z)) → ∃ zs, l = I8 zs
  | [], _ => ⟨[], rfl⟩
  | v :: l, h => by
    obtain ⟨z, hz⟩ := h 0 (by simp)
    obtain ⟨zs, hzs⟩ := cells_ints l (fun i hi => by have := h (i + 1) (by simp; omega); simpa using this)
    refine ⟨z :: zs, ?_⟩
    simp at hz
    simp [I8] at hzs ⊢
    exact ⟨hz, hzs⟩

theorem open_arr {H : Type} {enc : TypeId × Value → H} {W : World} {r : Reach} {b0 base : Nat} {spare : Nat → Bool} {held : Bool} {v : Value} {d : DataW H} {p : List MemPlace}
    (hv : Value.okWide Try.prog W r b0 23 v) (h : DataW.Trod enc Try.prog W base spare held 23 v d p) : ∃ zs, v = .agg (I8 zs).toArray ∧ zs.length = 32 := by
  obtain ⟨cs, rfl, hsz, _⟩ : ∃ cs, v = .agg cs ∧ cs.size = Try.prog.cellsOf 23 ∧ Row.okWide Try.prog W r b0 23 cs := by
    simpa [Value.okWide, Try.underlying23] using hv
  rw [cells23] at hsz
  obtain ⟨l⟩ := cs
  obtain ⟨fuel, hf⟩ := h
  obtain ⟨xs, m, _, _, _, hl, hel⟩ := DataW.trod_array Try.underlying23 hf
  simp only [Value.cells, cells5, Nat.mul_one] at hel
  have hsz' : l.length = 32 := by simpa using hsz
  obtain ⟨zs, rfl⟩ := cells_ints l (fun i hi => by
    have hi' : i < 32 := by omega
    have := hel i hi'
    rw [List.getElem?_eq_getElem (show i < xs.length by omega)] at this
    obtain ⟨z, e, _⟩ := DataW.trod_int Try.underlying5 this
    refine ⟨z, ?_⟩
    rw [List.getElem?_eq_getElem hi]
    have e' : (List.drop i l).take 1 = [Value.int .u8 z] := e
    rw [List.drop_eq_getElem_cons hi, List.take_succ_cons] at e'
    rw [(List.cons.inj e').1])
  exact ⟨zs, rfl, by simpa [I8_length] using hsz'⟩

end Go.Proofs.Qxb6609048a
