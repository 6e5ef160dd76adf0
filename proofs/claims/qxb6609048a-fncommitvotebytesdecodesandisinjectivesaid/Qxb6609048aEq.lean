/-
  The readers' walks of the seat b6609048a: cvBytesEqual.
-/
import Derived.Test.Qxb6609048aRows
import Derived.Test.Qxb6609048aPlain
import Derived.WalkKit
import Derived.WalkSpells
import Derived.WalkLawsBesides
import Derived.Deep.QuietTactic
import Derived.BigQuiet
namespace Go.Proofs.Qxb6609048a
open Go.RowKit

/-- The cells from offset o of block g on hold the bytes l. -/
def RowAt (w : World) (g o : Nat) (l : List Int) : Prop := ∀ j, j < l.length → w.cell? ⟨g, o + j, none⟩ = some (.int .u8 (l.getD j 0))

theorem RowAt.drewN {w : World} {g o : Nat} {l : List Int} (h : RowAt w g o l) (n : Nat) : RowAt (w.drewN n) g o l := fun j hj => by simpa using h j hj

set_option maxHeartbeats 1000000 in
theorem bytesEq (ga oa na ca gb ob nb cb : Nat) (la lb : List Int) (w : World) (hla : la.length = na) (hlb : lb.length = nb) (ha : RowAt w ga oa la) (hb : RowAt w gb ob lb) (hna : na ≤ 9223372036854775807) (hnb : nb ≤ 9223372036854775807) :
    Calls Try.prog 8 #[.slice (some ⟨ga, oa, none⟩) na ca, .slice (some ⟨gb, ob, none⟩) nb cb] w fun e w' => e = .returned (.bool (decide (la = lb))) ∧ ∃ q, w' = w.drewN q := by
  by_cases hn : na = nb
  · subst hn
    have HA := hla
    have HB := hlb
    have ha' : Hid (RowAt w ga oa la) := ha
    have hb' : Hid (RowAt w gb ob lb) := hb
    clear ha hb
    go_enter Try.func8, Try.ntmps8
    go_wp2
    go_loopw [5] (fun i wr => ∃ k q : Nat, k ≤ na ∧ i = .int .i64 k ∧ Hid (∀ j, j < k → la.getD j 0 = lb.getD j 0) ∧ wr = w.drewN q) (fun i _ => na - (intOf i).toNat)
    case atStart => exact ⟨0, 0, Nat.zero_le _, rfl, fun j hj => absurd hj (by omega), rfl⟩
    case round =>
      obtain ⟨k, q, hk, rfl, heq, rfl⟩ := hrel
      by_cases hlt : k < na
      · obtain ⟨x, hx⟩ : ∃ x, x = la.getD k 0 := ⟨_, rfl⟩
        obtain ⟨y, hy⟩ : ∃ y, y = lb.getD k 0 := ⟨_, rfl⟩
        have cx : w.cell? ⟨ga, oa + k, none⟩ = some (.int .u8 x) := by rw [hx]; exact ha'.out k (by omega)
        have cy : w.cell? ⟨gb, ob + k, none⟩ = some (.int .u8 y) := by rw [hy]; exact hb'.out k (by omega)
        have HX : Hid (x = la.getD k 0) := hx
        have HY : Hid (y = lb.getD k 0) := hy
        clear hx hy hla hlb
        by_cases hxy : x = y
        · subst hxy
          go_wp2
          go_quiet (fail)
          go_wp2
          go_roundw
          case rel =>
            refine ⟨k + 1, _, by omega, by go_num, fun j hj => ?_, rfl⟩
            by_cases hj' : j < k
            · exact heq.out j hj'
            · obtain rfl : j = k := by omega
              rw [← HX.out, HY.out]
          case measure => simp [intOf]; omega
        · have hb1 : (x != y) = true := by simpa using hxy
          have HXY : Hid (¬ x = y) := hxy
          clear hxy
          go_wp2
          go_quiet (fail)
          go_wp2
          go_ret
          refine ⟨?_, _, World.drewN_drewN _ _ _⟩
          have : la ≠ lb := by
            intro h
            exact HXY.out (by rw [HX.out, HY.out, h])
          simp [this]
      · have : la = lb := by
          apply List.ext_getElem (by omega)
          intro j h1 h2
          have := heq.out j (by omega)
          simpa [List.getD_eq_getElem?_getD, h1, h2] using this
        go_wp2
        go_ret
        exact ⟨by simp [this], _, rfl⟩
  · have : la ≠ lb := by
      intro h
      apply hn
      rw [← hla, ← hlb, h]
    have HN : Hid (la ≠ lb) := this
    have hn' : ((na : Int) != (nb : Int)) = true := by simpa using (fun h : (na : Int) = nb => hn (by omega))
    clear this ha hb hn hla hlb
    go_enter Try.func8, Try.ntmps8
    go_wp2
    go_ret
    exact ⟨by simp [HN.out], 0, rfl⟩

end Go.Proofs.Qxb6609048a
