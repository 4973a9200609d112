/-
  THE WRITERS OF msgpack, ONTO A SLICE THAT THE CALL OWNS (ownsRow), AND THE FIRST OF THEM ONTO A FULL SLICE (its capacity is its length: a new array is made).
-/
import Derived.Test.Qxb6603585aClone
import Derived.OwnWalk
import Derived.ArgAppend
import Derived.Lib.AppendStr
import Derived.Maps.AppendAt
namespace Go.Proofs.Qxb6603585a
open Go.RowKit

theorem ownsRow_base {w : World} {base base' : Nat} {e : TypeId} {size : Nat} {v : Value} {n : Nat} {xs : List Value} (h : w.ownsRow base e size v n xs) (hb : base' ≤ base) : w.ownsRow base' e size v n xs := by
  obtain ⟨h1, h2⟩ := h
  refine ⟨h1, ?_⟩
  rcases h2 with h2 | ⟨g, cap, cur, hv, hg, r⟩
  · exact .inl h2
  · exact .inr ⟨g, cap, cur, hv, Nat.le_trans hb hg, r⟩

/-- What every writer comes to: some value that owns xs and news behind them; below B nothing has turned. -/
def Wrote (B n : Nat) (xs news : List Value) (w : World) (e : Ending) (w' : World) : Prop :=
  ∃ v', e = .returned v' ∧ w'.ownsRow B 5 1 v' (n + news.length) (xs ++ news) ∧ Below B w w'

set_option maxHeartbeats 400000 in
/-- appendLength(dst, 3, 0x80, 15, 0, ..), dst full: one byte behind dst, in a new array. -/
theorem length_full (ao : Option Addr) (n : Nat) (olds : List Value) (w : World) (hn : n ≤ 1048576) (hnone : ao = none → n = 0 ∧ n = 0) (hlo : olds.length = n * 1) (holds : ∀ b, ao = some b → ∀ j u, olds[j]? = some u → w.cell? (b.add j) = some u) :
    Calls Try.prog 28 #[.slice ao n n, .int .i64 3, .int .u8 128, .int .i64 15, .int .u8 0, .int .u8 222, .int .u8 223] w (Wrote w.heap.size n olds [.int .u8 131] w) := by
  obtain ⟨i0, hi, hz0, hz1, hz2⟩ := info_parts info5
  have Hh : Hid (∀ b, ao = some b → ∀ j u, olds[j]? = some u → w.cell? (b.add j) = some u) := holds
  clear holds
  go_enter Try.func28, Try.ntmps28
  go_wp2_with (at_builtin; refine wpList_append_grows _ rfl _ _ 39 rfl 5 i0 (.int .u8 0) 1 1 Try.underlying39 hi hz0 hz1 hz2 rfl (by decide) ao n n olds rfl hnone hlo ?c0 _ 1 1 [.int .u8 131] rfl rfl ?c1 ?c2 (by omega) ?c3 ?c4 ?_)
  case c0 =>
    intro b hb j u hj
    have h := Hh.out b hb j u hj
    rw [World.cell?_alloc_lt _ _ _ (World.block_lt_of_cell? w _ h)]
    exact h
  case c1 => exact cell_one_new _ _ _
  case c2 => intro u hu; simp at hu; subst hu; rfl
  case c3 => unfold maxLen; omega
  case c4 => omega
  intro v' w2 hown' hgrow
  go_wp2
  go_ret
  exact ⟨v', rfl, ownsRow_base hown' (by simp), ((Below.refl _ w).alloc (Nat.le_refl _) _).grown hgrow (by simp) (fun k hk => by cases hk)⟩

set_option maxHeartbeats 400000 in
/-- appendLength(dst, 2, 0xa0, 31, ..), dst owned. -/
theorem length_own (B n : Nat) (sv : Value) (xs : List Value) (w : World) (hown : w.ownsRow B 5 1 sv n xs) (hBw : B ≤ w.heap.size) (hn : n ≤ 2000000) :
    Calls Try.prog 28 #[sv, .int .i64 2, .int .u8 160, .int .i64 31, .int .u8 217, .int .u8 218, .int .u8 219] w (Wrote B n xs [.int .u8 162] w) := by
  obtain ⟨i0, hi, hz0, hz1, hz2⟩ := info_parts info5
  go_enter Try.func28, Try.ntmps28
  go_wp2_with (at_builtin; refine wpList_append_own _ rfl _ _ 39 rfl B 5 i0 (.int .u8 0) 1 1 Try.underlying39 hi hz0 hz1 hz2 rfl (by decide) _ _ _ rfl (hown.alloc _) _ 1 1 [.int .u8 162] rfl rfl ?c1 ?c2 ?c3 ?c4 ?c5 ?_)
  case c1 => exact cell_one_new _ _ _
  case c2 => intro u hu; simp at hu; subst hu; rfl
  case c3 => unfold maxLen; omega
  case c4 => omega
  case c5 => simp; omega
  intro v' w2 hown' hgrow _
  go_wp2
  go_ret
  exact ⟨v', rfl, hown', ((Below.refl B w).alloc hBw _).grown hgrow (by simp; omega) (fun k hk => (hown.lt k hk).1)⟩

set_option maxHeartbeats 400000 in
/-- appendString(dst, s), s of two bytes, dst owned. -/
theorem string_own (B n : Nat) (sv : Value) (xs : List Value) (s : ByteArray) (hs : s.size = 2) (w : World) (hown : w.ownsRow B 5 1 sv n xs) (hBw : B ≤ w.heap.size) (hn : n ≤ 1900000) :
    Calls Try.prog 26 #[sv, .string s] w (Wrote B n xs (.int .u8 162 :: Lib.strCells s) w) := by
  obtain ⟨i0, hi, hz0, hz1, hz2⟩ := info_parts info5
  go_enter Try.func26, Try.ntmps26
  go_wp2_with fail
  refine (length_own B n sv xs w hown hBw (by omega)).mono ?_
  rintro e w1 ⟨v1, rfl, hown1, bel1⟩
  have hB1 : B ≤ w1.heap.size := Nat.le_trans hBw bel1.size
  go_wp2_with (at_builtin; refine Lib.wpList_append_own_string _ rfl _ _ 39 9 rfl B 5 i0 Try.underlying39 Try.underlying9 hi hz0 hz1 hz2 _ _ _ rfl hown1 s rfl ?c3 ?c4 ?c5 ?_)
  case c3 => simp only [List.length_cons, List.length_nil, hs]; unfold maxLen; omega
  case c4 => simp only [List.length_cons, List.length_nil, hs]; omega
  case c5 => exact hB1
  intro v' w2 hown' hgrow _
  go_wp2
  go_ret
  refine ⟨v', rfl, ?_, bel1.grown hgrow hB1 (fun k hk => (hown1.lt k hk).1)⟩
  have e1 : n + (Value.int IntKind.u8 162 :: Lib.strCells s).length = n + 1 + 2 := by simp [Lib.strCells_length]; omega
  rw [e1]
  exact hown'

set_option maxHeartbeats 400000 in
/-- appendBool(dst, v), dst owned. -/
theorem bool_own (B n : Nat) (sv : Value) (xs : List Value) (b : Bool) (w : World) (hown : w.ownsRow B 5 1 sv n xs) (hBw : B ≤ w.heap.size) (hn : n ≤ 2000000) :
    Calls Try.prog 27 #[sv, .bool b] w (Wrote B n xs [.int .u8 (if b then 195 else 194)] w) := by
  obtain ⟨i0, hi, hz0, hz1, hz2⟩ := info_parts info5
  cases b
  · go_enter Try.func27, Try.ntmps27
    go_wp2_with (at_builtin; refine wpList_append_own _ rfl _ _ 39 rfl B 5 i0 (.int .u8 0) 1 1 Try.underlying39 hi hz0 hz1 hz2 rfl (by decide) _ _ _ rfl (hown.alloc _) _ 1 1 [.int .u8 194] rfl rfl ?c1 ?c2 ?c3 ?c4 ?c5 ?_)
    case c1 => exact cell_one_new _ _ _
    case c2 => intro u hu; simp at hu; subst hu; rfl
    case c3 => unfold maxLen; omega
    case c4 => omega
    case c5 => simp; omega
    intro v' w2 hown' hgrow _
    go_wp2
    go_ret
    exact ⟨v', rfl, hown', ((Below.refl B w).alloc hBw _).grown hgrow (by simp; omega) (fun k hk => (hown.lt k hk).1)⟩
  · go_enter Try.func27, Try.ntmps27
    go_wp2_with (at_builtin; refine wpList_append_own _ rfl _ _ 39 rfl B 5 i0 (.int .u8 0) 1 1 Try.underlying39 hi hz0 hz1 hz2 rfl (by decide) _ _ _ rfl (hown.alloc _) _ 1 1 [.int .u8 195] rfl rfl ?c1 ?c2 ?c3 ?c4 ?c5 ?_)
    case c1 => exact cell_one_new _ _ _
    case c2 => intro u hu; simp at hu; subst hu; rfl
    case c3 => unfold maxLen; omega
    case c4 => omega
    case c5 => simp; omega
    intro v' w2 hown' hgrow _
    go_wp2
    go_ret
    exact ⟨v', rfl, hown', ((Below.refl B w).alloc hBw _).grown hgrow (by simp; omega) (fun k hk => (hown.lt k hk).1)⟩
end Go.Proofs.Qxb6603585a
