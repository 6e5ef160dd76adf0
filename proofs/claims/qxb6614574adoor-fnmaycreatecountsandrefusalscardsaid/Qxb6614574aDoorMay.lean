/-
  The walks of the seat b6614574aD: slices.Index, slices.Contains, MayCreate, roleRank.
-/
import Derived.Test.Qxb6614574aDoorRows
import Derived.WalkKit
import Derived.WalkSpells
import Derived.WalkLawsBesides
namespace Go.Proofs.Qxb6614574aDoor
open Go.RowKit

def superL : List UInt8 := [115, 117, 112, 101, 114, 95, 97, 100, 109, 105, 110]
def adminL : List UInt8 := [97, 100, 109, 105, 110]
def supportL : List UInt8 := [115, 117, 112, 112, 111, 114, 116]
def userL : List UInt8 := [117, 115, 101, 114]

/-- What the table lists for a role. -/
def creat (r : List UInt8) : List (List UInt8) := if r = superL then [adminL, supportL, userL] else if r = adminL then [supportL, userL] else []
/-- Whether r may create o. -/
def may (r o : List UInt8) : Bool := (creat r).contains o
/-- The place in the declared order. -/
def rank (r : List UInt8) : Int := if r = superL then 0 else if r = adminL then 1 else if r = supportL then 2 else if r = userL then 3 else -1

/-- A slice of strings, by their bytes. -/
def SliceOf (W : World) (v : Value) (ls : List (List UInt8)) : Prop :=
  ∃ ao cap, v = .slice ao ls.length cap ∧ (ls ≠ [] → ∃ b o, ao = some ⟨b, o, none⟩ ∧ ∀ j, j < ls.length → ∃ s, W.cell? ⟨b, o + j, none⟩ = some (.string s) ∧ s.toList = ls.getD j [])

set_option maxHeartbeats 400000 in
theorem index_nil (ao : Option Addr) (cap : Nat) (x : ByteArray) (w : World) :
    Calls Tryd.prog 17 #[.slice ao 0 cap, .string x] w fun e w' => e = .returned (.int .i64 (-1)) ∧ w' = w := by
  go_enter Tryd.func17, Tryd.ntmps17
  go_wp2
  refine wp_loop_rounds 1 ?_
  rw [rounds_succ]
  go_wp2
  go_ret
  exact ⟨rfl, rfl⟩

set_option maxHeartbeats 400000 in
theorem index_some (b o n cap : Nat) (ls : List (List UInt8)) (x : ByteArray) (w : World) (hn : ls.length = n) (hm : n ≤ 9223372036854775807) (hc : ∀ j, j < n → ∃ s, w.cell? ⟨b, o + j, none⟩ = some (.string s) ∧ s.toList = ls.getD j []) :
    Calls Tryd.prog 17 #[.slice (some ⟨b, o, none⟩) n cap, .string x] w fun e w' => (∃ k : Int, e = .returned (.int .i64 k) ∧ (decide (0 ≤ k)) = ls.contains x.toList) ∧ w' = w := by
  have HC : Hid (∀ j, j < n → ∃ s, w.cell? ⟨b, o + j, none⟩ = some (.string s) ∧ s.toList = ls.getD j []) := hc
  have HN : Hid (ls.length = n) := hn
  clear hc hn
  go_enter Tryd.func17, Tryd.ntmps17
  go_wp2
  go_loop [8] (fun i => ∃ k : Nat, k ≤ n ∧ i = .int .i64 k ∧ Hid (∀ j, j < k → ls.getD j [] ≠ x.toList)) (fun i => n - (intOf i).toNat)
  case atStart => exact ⟨0, Nat.zero_le _, rfl, fun j hj => absurd hj (by omega)⟩
  case round =>
    obtain ⟨k, hk, rfl, hno⟩ := hrel
    by_cases hlt : k < n
    · obtain ⟨s, cs, es⟩ := HC.out k hlt
      have ES : Hid (s.toList = ls.getD k []) := es
      clear es
      cases hxs : (x.toList == s.toList) with
      | true =>
        go_wp2
        go_ret
        refine ⟨⟨_, rfl, ?_⟩, rfl⟩
        have : x.toList ∈ ls := by
          have e : x.toList = s.toList := by simpa using hxs
          rw [e, ES.out, List.getD_eq_getElem?_getD, List.getElem?_eq_getElem (by rw [HN.out]; exact hlt)]
          simp
        simp [this]
      | false =>
        go_wp2
        go_round
        case rel =>
          refine ⟨k + 1, by omega, by go_num, fun j hj => ?_⟩
          by_cases hj' : j < k
          · exact hno.out j hj'
          · obtain rfl : j = k := by omega
            rw [← ES.out]
            intro h
            simp [h] at hxs
        case measure => simp [intOf]; omega
    · go_wp2
      go_ret
      refine ⟨⟨_, rfl, ?_⟩, rfl⟩
      have : x.toList ∉ ls := by
        intro hmem
        obtain ⟨j, hj, e⟩ := List.mem_iff_getElem.1 hmem
        refine hno.out j (by have := HN.out; omega) ?_
        rw [List.getD_eq_getElem?_getD, List.getElem?_eq_getElem hj]
        simpa using e
      simp [this]

set_option maxHeartbeats 400000 in
theorem contains15 (v : Value) (ls : List (List UInt8)) (x : ByteArray) (w : World) (hs : SliceOf w v ls) (hm : ls.length ≤ 100) :
    Calls Tryd.prog 15 #[v, .string x] w fun e w' => e = .returned (.bool (ls.contains x.toList)) ∧ w' = w := by
  obtain ⟨ao, cap, rfl, hc⟩ := hs
  by_cases h0 : ls = []
  · subst h0
    clear hc hm
    go_enter Tryd.func15, Tryd.ntmps15
    go_wp2_with (go_at_call 17; refine (index_nil _ _ _ _).mono ?_; rintro e w ⟨rfl, rfl⟩)
    go_ret
    exact ⟨rfl, rfl⟩
  · obtain ⟨b, o, rfl, hc'⟩ := hc h0
    have H : Hid (Calls Tryd.prog 17 #[.slice (some ⟨b, o, none⟩) ls.length cap, .string x] w fun e w' => (∃ k : Int, e = .returned (.int .i64 k) ∧ (decide (0 ≤ k)) = ls.contains x.toList) ∧ w' = w) := index_some b o _ cap ls x w rfl (by omega) hc'
    clear hc hc' h0
    generalize ls.contains x.toList = B at *
    go_enter Tryd.func15, Tryd.ntmps15
    go_wp2_with (go_at_call 17; refine H.out.mono ?_; rintro e w ⟨⟨k, rfl, hk⟩, rfl⟩)
    go_ret
    exact ⟨by rw [← hk]; rfl, rfl⟩

end Go.Proofs.Qxb6614574aDoor
