/-
  The encoder's walks of the seat b6609048a: '(*encoder).uint64'.
-/
import Derived.Test.Qxb6609048aEnc
import Derived.Deep.RegionLaw
namespace Go.Proofs.Qxb6609048a
open Go.RowKit

/-- The encoder lies in block E, and its buffer owns the n bytes l. -/
def Enc (E n : Nat) (l : List Int) (w : World) : Prop := ∃ v, w.heap[E]? = some (.cells #[v] 39 (0, 0)) ∧ w.ownsRow (E + 1) 5 1 v n (I8 l)

theorem slice_of_owns {w : World} {base size n : Nat} {e : TypeId} {v : Value} {xs : List Value} (h : w.ownsRow base e size v n xs) : ∃ ao cap, v = .slice ao n cap := by
  rcases h.2 with ⟨rfl, rfl⟩ | ⟨g, cap, _, rfl, _⟩
  · exact ⟨_, _, rfl⟩
  · exact ⟨_, _, rfl⟩

/-- What a store of the grown buffer leaves. -/
theorem Enc.store {E n : Nat} {w w1 : World} {l l' : List Int} {v v' : Value} (hb : w.heap[E]? = some (.cells #[v] 39 (0, 0))) (hbel : Below (E + 1) w w1)
    (hown : w1.ownsRow (E + 1) 5 1 v' n (I8 l ++ I8 l')) :
    Enc E n (l ++ l') (w1.setCell ⟨E, 0, none⟩ v') ∧ Below E w (w1.setCell ⟨E, 0, none⟩ v') := by
  have hb1 : w1.heap[E]? = some (.cells #[v] 39 (0, 0)) := by rw [hbel.block E (by omega)]; exact hb
  refine ⟨⟨v', one_setCell hb1, ?_⟩, (hbel.mono (Nat.le_succ E)).setCell (p := ⟨E, 0, none⟩) (Nat.le_refl _) _⟩
  rw [I8_append]
  exact ownsRow_setCell_below hown (a := ⟨E, 0, none⟩) (Nat.lt_succ_self E) _

set_option maxHeartbeats 2000000 in
set_option maxRecDepth 100000 in
theorem encU64 (E n : Nat) (l : List Int) (v : Int) (h0 : 0 ≤ v) (h1 : v ≤ 18446744073709551615) (w : World) (hE : Enc E n l w) (hlim : n + 8 ≤ 140737488355328) :
    Calls Try.prog 14 #[.pointer (some ⟨E, 0, none⟩), .int .u64 v] w fun e w' => e = .returned (.tuple #[]) ∧ Enc E (n + 8) (l ++ be8 v) w' ∧ Below E w w' := by
  obtain ⟨sv, hb, hown⟩ := hE
  obtain ⟨ao, cap, rfl⟩ := slice_of_owns hown
  have hc := cell_of_one hb
  have hf := free_of_one hb
  have hlt := lt_of_block hb
  have HB : Hid (w.heap[E]? = some (.cells #[.slice ao n cap] 39 (0, 0))) := hb
  clear hb
  go_enter Try.func14, Try.ntmps14
  go_wp2
  go_region_with (go_at_call 17; refine (appU64 (E + 1) _ v h0 h1 _ _ _ hown.drew (by simp; omega) hlim).mono ?_; rintro e w1 ⟨v', rfl, hown', hbel⟩; obtain ⟨ao', cap', rfl⟩ := slice_of_owns hown'; have hc' := (hbel.cell (p := ⟨E, 0, none⟩) (by simp)).trans hc; have hf' := (hbel.frozen (p := ⟨E, 0, none⟩) (by simp)).trans hf)
  all_goals
    go_end0
    have R := Enc.store HB.out (((Below.refl _ w).drew).trans hbel) hown'
    exact ⟨rfl, R.1, R.2⟩

theorem cell_new (w : World) (cs : Array Value) (t : TypeId) (j : Nat) (u : Value) (h : cs[j]? = some u) : (w.alloc (.cells cs t)).cell? ⟨w.heap.size, j, none⟩ = some u := by
  have hh := heap_alloc_new w (Obj.cells cs t)
  simp only [World.cell?, hh, h, Option.isSome_none, Bool.false_eq_true, if_false]

/-- append onto a slice that the call owns, as one step of a region that draws. -/
theorem step_append_own {P : Program} {ops : Array Oper} {o : Oper} {a : Act} {w : World} {K : Act → World → Prop} {Q : Exit → Act → World → Prop} {X : Prop}
    (hg : o.guard = none) (s x : Operand) (t : TypeId) (hop : o.op = Op.call { callee := Callee.builtin Builtin.append, args := #[s, x], argTypes := #[t, t] })
    (base : Nat) (e : TypeId) (i : TypeInfo) (z : Value) (size bytes : Nat) (h1 : P.underlying t = some (.slice e)) (h2 : P.info? e = some i) (h3 : i.zero = some z) (h4 : i.size = size) (h5 : i.bytes = bytes) (h6 : z.cells.size = size) (h7 : 0 < size)
    (v : Value) (n : Nat) (xs : List Value) (hs : a.eval s = v) (hown : w.ownsRow base e size v n xs)
    (ad : Addr) (m c : Nat) (news : List Value) (hx : a.eval x = .slice (some ad) m c) (hn : news.length = m * size) (hc : ∀ j u, news[j]? = some u → w.cell? (ad.add j) = some u) (h1c : ∀ u ∈ news, u.oneCell' = true)
    (b1 : n + m ≤ maxLen) (b2 : (n + m) * bytes ≤ 140737488355328) (hbase : base ≤ w.heap.size)
    (hK : ∀ v' w', w'.ownsRow base e size v' (n + m) (xs ++ news) → w.grownBy w' v.ownBlock → K (a.put o.dst v') w') :
    if Region.wanted o (yielded ops a.tmps) = true then Oper.wp P o a w K Q else X := by
  have hw : Region.wanted o (yielded ops a.tmps) = true := by simp [Region.wanted, hg]
  rw [if_pos hw]
  obtain ⟨v', w', hrun, r1, r2, _⟩ := run_append_own (P := P) w base t o.type e i z size bytes h1 h2 h3 h4 h5 h6 h7 v n xs hown ad m c news hn hc h1c b1 b2 hbase
  unfold Oper.wp
  simp [execOp, hop, resolve, invoke, builtin, hs, hx, hrun, Result.andThen]
  exact hK v' w' r1 r2

set_option maxHeartbeats 2000000 in
set_option maxRecDepth 100000 in
theorem encHash (E n : Nat) (l zs : List Int) (hz : zs.length = 32) (w : World) (hE : Enc E n l w) (hlim : n + 32 ≤ 140737488355328) :
    Calls Try.prog 15 #[.pointer (some ⟨E, 0, none⟩), .agg (I8 zs).toArray] w fun e w' => e = .returned (.tuple #[]) ∧ Enc E (n + 32) (l ++ zs) w' ∧ Below E w w' := by
  obtain ⟨i0, hi, hz0, hz1, hz2⟩ := info_parts info5
  obtain ⟨sv, hb, hown⟩ := hE
  obtain ⟨ao, cap, rfl⟩ := slice_of_owns hown
  have hc := cell_of_one hb
  have hf := free_of_one hb
  have hlt := lt_of_block hb
  have HB : Hid (w.heap[E]? = some (.cells #[.slice ao n cap] 39 (0, 0))) := hb
  clear hb
  go_enter Try.func15, Try.ntmps15
  go_wp2
  have hnews : Hid (∀ j u, (I8 zs)[j]? = some u → (w.alloc (Obj.cells (I8 zs).toArray 27)).drew.cell? ((⟨w.heap.size, 0, none⟩ : Addr).add j) = some u) := by
    intro j u hu
    rw [Addr.add_lit, Nat.zero_add]
    exact cell_new w _ 27 j u (by simpa using hu)
  go_region_law (refine step_append_own rfl (.tmp 8) (.tmp 9) 25 rfl (E + 1) 5 i0 (.int .u8 0) 1 1 Try.underlying25 hi hz0 hz1 hz2 rfl (by decide) (.slice ao n cap) n (I8 l) (by simp [Act.eval]) (hown.alloc _).drew ⟨w.heap.size, 0, none⟩ 32 32 (I8 zs) (by simp [Act.eval]) (by rw [I8_length, hz]) hnews.out (I8_one _) (by unfold maxLen; omega) (by omega) (by simp; omega) ?_; intro v' w1 hown' hgrow; obtain ⟨ao', cap', rfl⟩ := slice_of_owns hown'; have hbel : Below (E + 1) w w1 := ((((Below.refl _ w).alloc (by omega) _).drew).grown hgrow (by simp; omega) (fun k hk => (hown.lt k hk).1)); have hc' := (hbel.cell (p := ⟨E, 0, none⟩) (by simp)).trans hc; have hf' := (hbel.frozen (p := ⟨E, 0, none⟩) (by simp)).trans hf)
  all_goals
    go_end0
    have R := Enc.store HB.out hbel hown'
    exact ⟨rfl, R.1, R.2⟩

set_option maxHeartbeats 2000000 in
set_option maxRecDepth 100000 in
theorem encStr (E n : Nat) (l : List Int) (s : ByteArray) (w : World) (hE : Enc E n l w) (hlim : n + 8 + s.size ≤ 140737488355328) :
    Calls Try.prog 16 #[.pointer (some ⟨E, 0, none⟩), .string s] w fun e w' => e = .returned (.tuple #[]) ∧ Enc E (n + 8 + s.size) (l ++ be8 s.size ++ sb s) w' ∧ Below E w w' := by
  obtain ⟨i0, hi, hz0, hz1, hz2⟩ := info_parts info5
  have hlt := lt_of_block hE.choose_spec.1
  go_enter Try.func16, Try.ntmps16
  go_wp2_with (first | (go_at_call 14; refine (encU64 E n l _ (by omega) (by omega) _ hE (by omega)).mono ?_; rintro e w1 ⟨rfl, ⟨sv, hb, hown⟩, hbel1⟩; obtain ⟨ao, cap, rfl⟩ := slice_of_owns hown; have hc := cell_of_one hb; have hf := free_of_one hb; have HB : Hid (w1.heap[E]? = some (.cells #[.slice ao (n + 8) cap] 39 (0, 0))) := hb; clear hb) | (at_builtin; refine Lib.wpList_append_own_string _ rfl (.tmp 13) (.tmp 14) 25 9 rfl (E + 1) 5 i0 Try.underlying25 Try.underlying9 hi hz0 hz1 hz2 _ _ _ rfl hown s rfl ?c1 ?c2 ?c3 ?_))
  case c1 => unfold maxLen; omega
  case c2 => omega
  case c3 => have := hbel1.size; omega
  intro v' w2 hown' hgrow _
  obtain ⟨ao', cap', rfl⟩ := slice_of_owns hown'
  have hbel : Below (E + 1) w1 w2 := (Below.refl _ w1).grown hgrow (by have := hbel1.size; omega) (fun k hk => (hown.lt k hk).1)
  have hc' := (hbel.cell (p := ⟨E, 0, none⟩) (by simp)).trans hc
  have hf' := (hbel.frozen (p := ⟨E, 0, none⟩) (by simp)).trans hf
  go_wp2
  go_end0
  have e : Lib.strCells s = I8 (sb s) := by simp [Lib.strCells, I8, sb]
  rw [e] at hown'
  have R := Enc.store HB.out hbel hown'
  exact ⟨rfl, R.1, hbel1.trans R.2⟩

end Go.Proofs.Qxb6609048a
