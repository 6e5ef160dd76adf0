/-
  What the listed map gives the walks (seat b6614574aD).
-/
import Derived.Test.Qxb6614574aDoorMay
import Derived.ProofKit
import Derived.LaidMore
import Derived.OpenShut
import Derived.Stop.Joined
import Derived.SliceStrings
namespace Go.Proofs.Qxb6614574aDoor
open Go.ChangeShapes Go.WideShapes Go.ChangeAt Go.WideMaps Go.WideElems Go.RowKit

/-- The listed variable's name. -/
def creatableName : String := Rows.fnMayCreateExactlyTheLaterRolesSpec.vars.headD ""
def laid1 : List (String × DataW Unit) := [(creatableName, Rows.laid_example_com_hoviyat_hoviyat_pkg_user_creatable)]

theorem own : ownKnob Tryd.prog.godebug = none := by kernel_rfl
theorem gCreat : Tryd.prog.globalNamed creatableName = some 0 := by kernel_rfl
theorem tCreat : (Tryd.prog.globals[0]?).map (·.type) = some 32 := by kernel_rfl
theorem law : KeyLaw Tryd.prog 24 := string_law Tryd.underlying24
theorem cells24 : Tryd.prog.cellsOf 24 = 1 := by kernel_rfl

/-- The variable holds a map, and each look-up gives what the text lists. -/
def Tab (W : World) (bm : Nat) : Prop := W.cell? ⟨0, 0, none⟩ = some (.map (some bm)) ∧
  ∀ r : ByteArray, r.size ≤ maxLen → ∃ v, (Instr.lookup 32 (.map (some bm)) (.string r) false).run Tryd.prog W = .ok v W ∧ SliceOf W v (creat r.toList)

theorem strs_inj {H : Type} : ∀ {ss : List ByteArray} {ls : List (List UInt8)}, (strs ss : List (DataW H)) = ls.map (fun l => .lit (.string l)) → ss.map (·.data.toList) = ls
  | [], [], _ => rfl
  | s :: ss, l :: ls, h => by
    simp only [strs, List.map_cons, List.cons.injEq, DataW.lit.injEq, Lit.string.injEq] at h ⊢
    exact ⟨h.1, strs_inj h.2⟩
  | [], _ :: _, h => by simp [strs] at h
  | _ :: _, [], h => by simp [strs] at h

/-- A slice that reads as these strings. -/
theorem slice_of_read {H : Type} {enc : TypeId × Value → H} {W : World} {base n : Nat} {sp : Nat → Bool} {held : Bool} {v : Value} {y : DataW H × List MemPlace} {ls : List (List UInt8)} (h : elemAt enc Tryd.prog W base sp held n 31 v = some y)
    (hy : y.1 = .slice (ls.map fun l => .lit (.string l)) []) (hls : ls ≠ []) : SliceOf W v ls := by
  unfold elemAt at h
  split at h
  · rename_i hf
    rcases open_strings Tryd.underlying31 Tryd.underlying24 cells24 h with ⟨_, rfl⟩ | ⟨a, len, cap, ss, hcs, _, hl, hm, hz, rfl, hcell, _⟩
    · simp at hy
    · simp only [DataW.slice.injEq] at hy
      have h1 := strs_inj hy.1
      have hss : len ≤ ss.length := by rw [hz]; split <;> omega
      have hlen : len = ls.length := by
        have := congrArg List.length h1
        simp at this
        omega
      have hv : v = .slice (some a) len cap := by
        cases v <;> simp [Value.formed, Value.cells, Tryd.underlying31] at hf hcs
        obtain ⟨rfl, rfl, rfl⟩ := hcs
        rfl
      subst hlen
      refine ⟨some a, cap, hv, fun _ => ?_⟩
      have hpos : 0 < ls.length := by
        rcases ls with _ | ⟨_, _⟩
        · exact absurd rfl hls
        · simp
      have h0 := hcell 0 (by omega)
      obtain ⟨b, off, spot⟩ := a
      have hspot : spot = none := by simpa [Addr.add] using World.cell?_spot h0
      subst hspot
      refine ⟨b, off, rfl, fun j hj => ⟨ss.getD j ByteArray.empty, ?_, ?_⟩⟩
      · rw [← add_plain]; exact hcell j (by omega)
      · have hj2 : j < ss.length := by omega
        rw [ByteArray.toList_eq]
        rw [← h1]
        simp [List.getD_eq_getElem?_getD, hj, hj2]
  · cases h

theorem of_laid {W : World} (h : laidMetH Tryd.prog laid1 W) : ∃ bm, Tab W bm := by
  rw [MakeChecks.laidMetH_plain _ _ _ (by kernel_rfl)] at h
  obtain ⟨ps, ⟨g0, t0, cs0, f0, p0, q0, hg0, ht0, hv0, hd0, _, _⟩, _, _⟩ := h
  obtain rfl := Option.some.inj (gCreat.symm.trans hg0)
  obtain rfl := Option.some.inj (tCreat.symm.trans ht0)
  have zero : (zeroValue 31).run Tryd.prog W = .ok (.slice none 0 0) W := by kernel_rfl
  rcases open_map Tryd.underlying32 hd0 with ⟨_, hx⟩ | ⟨bm, es, clock, m, rfl, hcs, hb, _, F, hx⟩
  · simp [Rows.laid_example_com_hoviyat_hoviyat_pkg_user_creatable] at hx
  simp only [Prod.mk.injEq] at hx
  have hcell : W.cell? ⟨0, 0, none⟩ = some (.map (some bm)) := by
    have := World.var?_cell hg0 hv0 0
    rw [Array.eq_one_of_toList hcs] at this
    simpa using this
  refine ⟨bm, hcell, fun r hr => ?_⟩
  have hat0 : ∀ zd : DataW Unit, Rows.laid_example_com_hoviyat_hoviyat_pkg_user_creatable.atKey (.string r.data.toList) zd = (if creat r.toList = [] then zd else .slice ((creat r.toList).map fun l => .lit (.string l)) []) := by
    intro zd
    rw [ByteArray.toList_eq]
    generalize r.data.toList = l
    unfold creat
    by_cases h1 : l = superL
    · subst h1; rfl
    · by_cases h2 : l = adminL
      · subst h2; rfl
      · rw [if_neg h1, if_neg h2, if_pos rfl]
        have a1 : ([97, 100, 109, 105, 110] == l) = false := by
          rw [beq_eq_false_iff_ne]; exact fun h => h2 h.symm
        have a2 : ([115, 117, 112, 101, 114, 95, 97, 100, 109, 105, 110] == l) = false := by
          rw [beq_eq_false_iff_ne]; exact fun h => h1 h.symm
        simp [Rows.laid_example_com_hoviyat_hoviyat_pkg_user_creatable, DataW.atKey, Lit.sameKey, a1, a2]
  rcases fit_lookup (w := W) law Tryd.underlying32 zero hb F (keyOf_string_mk (s := r) Tryd.underlying24 hr) with ⟨hrun, hat⟩ | ⟨v, y, hrun, hRv, hat, _⟩
  · refine ⟨_, hrun, ?_⟩
    have := hat .nil
    rw [← hx.1, hat0] at this
    split at this
    · rename_i he
      rw [he]
      exact ⟨none, 0, rfl, fun h => absurd rfl h⟩
    · cases this
  · refine ⟨v, hrun, ?_⟩
    have h1 := hat .nil
    have h2 := hat (.lit (.bool true))
    rw [← hx.1, hat0] at h1 h2
    split at h1
    · rename_i he
      rw [if_pos he] at h2
      rw [← h1] at h2
      cases h2
    · rename_i he
      exact slice_of_read hRv h1.symm he

end Go.Proofs.Qxb6614574aDoor
