/-
  The proof of Rows.FnMayCreateExactlyTheLaterRolesCardSaid (seat b6614574aD): the row, then the tied card.
-/
import Derived.Test.Qxb6614574aDoorRows
import Derived.Test.Qxb6614574aDoorTie
import Derived.Test.Qxb6614574aDoorCards
import Derived.Test.Qxb6614574aDoorLaterX
import Derived.ProofKit
import Derived.LaidMore
import Derived.OpenShut
import Derived.ShutString
import Derived.Stop.Joined
import Derived.SevenTiedAt
namespace Go.Proofs.Qxb6614574aDoor.fnMayCreateExactlyTheLaterRoles
open Go.ChangeShapes Go.WideShapes Go.ChangeAt Go.WideMaps Go.WideElems Go.RowKit
open Go.ChangeMaps (open_string shut_string)
set_option linter.unusedVariables false

theorem laidOut : laidOutB Tryd.prog = true := by kernel_rfl

/-- The door's own heap meets the condition. -/
theorem door_met (os : Os) (args : Array Value) : laidMetH Tryd.prog laid1 ((World.doorLaid Tryd.prog 400 os).forCall (fun _ _ => 0) ⟨#[], args, []⟩).memory :=
  laidMetH_of_parts3 (fuel := 8) (laidMet_of_run' 8 (by kernel_rfl) (by kernel_rfl)) (by kernel_rfl) (by kernel_rfl)

set_option maxRecDepth 100000 in
theorem lifted (os : Os) (started : os.Started) (H : Type) (enc : TypeId × Value → H) :
    ReturnsInHanded {} Tryd.checked os 3 .any (fun w args => (Rows.fnMayCreateExactlyTheLaterRolesSpec.pre enc Tryd.prog Tryd.f3 [] false w args ∧ laidMetH Tryd.prog laid1 w) ∧ sizedMet enc Tryd.prog Tryd.f3 (OpenSpec.ofChange Rows.fnMayCreateExactlyTheLaterRolesSpec) false w args)
      (Rows.fnMayCreateExactlyTheLaterRolesSpec.post enc Tryd.prog Tryd.f3 false true false false) := by
  refine returnsInHanded_of_change_and (C := Tryd.checked) (X := fun w _ => laidMetH Tryd.prog laid1 w) (fun _ _ _ hh h => h.of_heap hh) own started (by kernel_rfl) Tryd.func3
    (ChangeSpec.witness_shaped (enc := enc) (C := Tryd.checked) (os := os) (X := fun w _ => laidMetH Tryd.prog laid1 w) false (World.doorLaid Tryd.prog 400 os) #[.string ByteArray.empty, .string ByteArray.empty, .string ByteArray.empty] 8 rfl (World.shaped_of_RefB (by kernel_rfl) (by kernel_rfl)) (by kernel_rfl) (by kernel_rfl) (by kernel_rfl) (door_met os _)) ?_
  intro W base args ds gs before hval0 hW _ _ hL _
  have hval : ∀ (j : Nat) t v, Tryd.f3.params[j]? = some t → args[j]? = some v → Value.okWide Tryd.prog W .any base t v := hval0
  have hW' := hW
  obtain ⟨p, q, hA0, hV0, rfl, hfz, hnd⟩ := hW
  have hA : DataW.TrodAll enc Tryd.prog W 0 (fun _ => true) true Tryd.f3.params.toList args.toList ds p := hA0
  have hV : DataW.TrodVars enc Tryd.prog W (fun _ => true) [creatableName] gs q := hV0
  rw [Tryd.params3] at hA hval
  obtain ⟨v0, vs0, d0, ds0, p0, q0, hargs, rfl, rfl, h0, r0⟩ := trodAll_cons hA
  obtain ⟨v1, vs1, d1, ds1, p1, q1, rfl, rfl, rfl, h1, r1⟩ := trodAll_cons r0
  obtain ⟨v2, vs2, d2, ds2, p2, q2, rfl, rfl, rfl, h2, r2⟩ := trodAll_cons r1
  obtain ⟨rfl, rfl, rfl⟩ := trodAll_nil r2
  obtain rfl : args = #[v0, v1, v2] := by cases args; simp_all
  obtain ⟨g, t, cs, fuel, d, p', rfl, hg, ht, hvar, hd, rfl⟩ := trodVars_one hV
  obtain rfl := Option.some.inj (gCreat.symm.trans hg)
  obtain rfl := Option.some.inj (tCreat.symm.trans ht)
  obtain ⟨a0, rfl, rfl, rfl, w0⟩ := open_string Tryd.underlying9 (hval 0 9 v0 rfl rfl) h0
  obtain ⟨a1, rfl, rfl, rfl, w1⟩ := open_string Tryd.underlying9 (hval 1 9 v1 rfl rfl) h1
  obtain ⟨a2, rfl, rfl, rfl, w2⟩ := open_string Tryd.underlying9 (hval 2 9 v2 rfl rfl) h2
  obtain ⟨bm, hT⟩ := of_laid hL
  have hlt0 : ∀ x ∈ MemPlace.row ⟨0, 0, none⟩ cs.size ++ p', x.block < W.heap.size := fun x hx => hW'.lt x (List.mem_append_right _ hx)
  have hltv : ∀ x ∈ p', x.block < W.heap.size := fun x hx => hlt0 x (List.mem_append_right _ hx)
  have h0lt : 0 < W.heap.size := by
    have := World.block_lt_of_cell? W ⟨0, 0, none⟩ hT.1
    exact this
  have hcell : W.cell? ⟨0, 0, none⟩ = cs[0]? := World.var?_cell hg hvar 0
  have hcs : cs = #[.map (some bm)] := by
    rw [hT.1] at hcell
    rcases open_map Tryd.underlying32 hd with ⟨hcs, _⟩ | ⟨bm', es, clock, m, _, hcs, _⟩
    · rw [Array.eq_one_of_toList hcs] at hcell ⊢
      simp at hcell
    · rw [Array.eq_one_of_toList hcs] at hcell ⊢
      simp at hcell
      rw [hcell]
  subst hcs
  clear hA0 hV0 hval0 hA hV hcell
  refine (later_walk a0 a1 a2 bm W hT w0 w1 w2).mono fun e W' ⟨he, hw⟩ => ?_
  subst he
  have hB : Below W.heap.size W W' := by rw [hw]; exact Below.refl _ _
  obtain ⟨fuel', hd'⟩ := Below.trod laidOut (by kernel_rfl) (of_decide_eq_true (by kernel_rfl)) (v := .map (some bm)) (⟨fuel, by simpa [Value.cells] using hd⟩ : DataW.Trod enc Tryd.prog W 0 (fun _ => true) true 32 (.map (some bm)) d p') hB hltv
  have hv' := trodVars_mk1 (enc := enc) (spare := fun b => decide (b < W.heap.size)) hg ht (var?_below hB hg h0lt hvar) (by simpa [Value.cells] using hd')
  have e1 : Rows.fnMayCreateExactlyTheLaterRolesSpec.fn H ([.lit (.string a0.data.toList), .lit (.string a1.data.toList), .lit (.string a2.data.toList)] ++ [d]) = { results := [.lit (.bool true)], args := [.lit (.string a0.data.toList), .lit (.string a1.data.toList), .lit (.string a2.data.toList)], vars := [d] } := rfl
  refine ⟨_, rfl, _, _, _, [], [], (MemPlace.row ⟨0, 0, none⟩ (#[.map (some bm)] : Array Value).size ++ p'), hW', ?_, ?_, ?_, hB.frame _, fun h => by cases h⟩
  · rw [e1]; exact trodAll_mk1 (shut_bool Tryd.underlying4 _)
  · rw [e1]; exact (trodAll_cons_mk (shut_string Tryd.underlying9 w0) (trodAll_cons_mk (shut_string Tryd.underlying9 w1) (trodAll_cons_mk (shut_string Tryd.underlying9 w2) trodAll_mk0)))
  · rw [e1]; exact hv'

theorem row_holds : Rows.FnMayCreateExactlyTheLaterRolesSaid :=
  OpenClaim.holds_of_wide 3 Tryd.f3 rfl rfl rfl rfl rfl rfl rfl ⟨rfl, rfl, rfl, rfl, rfl⟩ rfl rfl rfl rfl rfl (by kernel_rfl) Tryd.func3 (by kernel_rfl)
    (of_decide_eq_true (by kernel_rfl)) (by unfold Func.isWrapper; first | (rw [if_pos (by decide +kernel)]; kernel_rfl) | (rw [if_neg (by decide +kernel)]; exact ⟨rfl, rfl⟩))
    (fun os started H enc _ => lifted os started H enc)

/-- The tied card. -/
theorem proved : Rows.FnMayCreateExactlyTheLaterRolesCardSaid :=
  Claim7.holds_tied_plain_at .later [] [.mappedDeep] true (true, "6457c35547b2e50b98a0a3ee8d1a1ddf8a427d6a34684738863ebcd6a9aae189") false
    row_holds (fun _ h => by cases h) (by kernel_rfl) (fun _ h => by cases h) fnMayCreateExactlyTheLaterRoles_row_tie rfl ⟨rfl, rfl⟩ (by kernel_rfl) rfl
    (fun f fn hf hfn => by
      obtain rfl : f = 3 := Option.some.inj ((show Tryd.prog.funcNamed Tryd.f3.name = some 3 by kernel_rfl).symm.trans hf) |>.symm
      obtain rfl : fn = Tryd.f3 := (Option.some.inj (Tryd.func3.symm.trans hfn)).symm
      exact ⟨by kernel_rfl, fun j t ht => by
        rw [Tryd.params3] at ht
        have hm : t ∈ [9, 9, 9] := by simpa using Array.mem_of_getElem? ht
        have hall : ([9, 9, 9].all fun u => !Tryd.prog.wantsStandIn u) = true := by kernel_rfl
        exact (show Tryd.prog.wantsStandIn t = false by simpa using List.all_eq_true.1 hall t hm)⟩)
    (by kernel_rfl)
end Go.Proofs.Qxb6614574aDoor.fnMayCreateExactlyTheLaterRoles
