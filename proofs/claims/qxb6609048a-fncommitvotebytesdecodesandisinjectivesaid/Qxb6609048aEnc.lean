/-
  The encoder's walks of the seat b6609048a.
-/
import Derived.Test.Qxb6609048aRows
import Derived.Test.Qxb6609048aPlain
import Derived.WalkKit
import Derived.WalkSpells
import Derived.WalkLawsBesides
import Derived.Lib.AppendStr
import Derived.Deep.RegionWith
namespace Go.Proofs.Qxb6609048a
open Go.RowKit

theorem info5 : (Try.prog.info? 5).map (fun i => (i.zero, i.size, i.bytes)) = some (some (.int .u8 0), 1, 1) := by kernel_rfl

set_option maxHeartbeats 2000000 in
set_option maxRecDepth 100000 in
theorem appU64 (B n : Nat) (v : Int) (h0 : 0 ≤ v) (h1 : v ≤ 18446744073709551615) (sv : Value) (xs : List Value) (w : World) (hown : w.ownsRow B 5 1 sv n xs) (hBw : B ≤ w.heap.size) (hlim : n + 8 ≤ 140737488355328) :
    Calls Try.prog 17 #[.agg #[], sv, .int .u64 v] w fun e w' => ∃ v', e = .returned v' ∧ w'.ownsRow B 5 1 v' (n + 8) (xs ++ I8 (be8 v)) ∧ Below B w w' := by
  obtain ⟨i0, hi, hz0, hz1, hz2⟩ := info_parts info5
  go_enter Try.func17, Try.ntmps17
  go_wp2_with (at_builtin; refine wpList_append_own _ rfl _ _ 25 rfl B 5 i0 (.int .u8 0) 1 1 Try.underlying25 hi hz0 hz1 hz2 rfl (by decide) _ _ _ rfl ((hown.alloc _).alloc _) _ 8 8 (I8 (be8 v)) rfl rfl ?c1 ?c2 ?c3 ?c4 ?c5 ?_)
  case c1 =>
    intro j u hj
    match j, hj with
    | 0, hj => simp [I8, be8] at hj; subst hj; simp [Addr.add]
    | 1, hj => simp [I8, be8] at hj; subst hj; simp [Addr.add]
    | 2, hj => simp [I8, be8] at hj; subst hj; simp [Addr.add]
    | 3, hj => simp [I8, be8] at hj; subst hj; simp [Addr.add]
    | 4, hj => simp [I8, be8] at hj; subst hj; simp [Addr.add]
    | 5, hj => simp [I8, be8] at hj; subst hj; simp [Addr.add]
    | 6, hj => simp [I8, be8] at hj; subst hj; simp [Addr.add]
    | 7, hj => simp [I8, be8] at hj; subst hj; simp [Addr.add]
  case c2 => exact I8_one _
  case c3 => unfold maxLen; omega
  case c4 => omega
  case c5 => simp; omega
  intro v' w2 hown' hgrow _
  go_wp2
  go_ret
  refine ⟨v', rfl, hown', ?_⟩
  exact ((((Below.refl B w).alloc hBw _).alloc (by simp; omega) _).grown hgrow (by simp; omega) (fun k hk => (hown.lt k hk).1))

end Go.Proofs.Qxb6609048a
