/-
  appendUint ONTO A SLICE THAT THE CALL OWNS. The three wide forms are regions that draw their order: the load of binary.BigEndian (an empty struct), the literal, the append and the call.
-/
import Derived.Test.Qxb6603585aBig
import Derived.Deep.RegionLaw
namespace Go.Proofs.Qxb6603585a
open Go.RowKit

/-- append ONTO A SLICE THAT THE CALL OWNS, as one step of a region that draws. -/
theorem step_append_own {P : Program} {ops : Array Oper} {o : Oper} {a : Act} {w : World} {K : Act → World → Prop} {Q : Exit → Act → World → Prop} {E : Prop}
    (hg : o.guard = none) (s x : Operand) (t : TypeId) (hop : o.op = Op.call { callee := Callee.builtin Builtin.append, args := #[s, x], argTypes := #[t, t] })
    (base : Nat) (e : TypeId) (i : TypeInfo) (z : Value) (size bytes : Nat) (h1 : P.underlying t = some (.slice e)) (h2 : P.info? e = some i) (h3 : i.zero = some z) (h4 : i.size = size) (h5 : i.bytes = bytes) (h6 : z.cells.size = size) (h7 : 0 < size)
    (v : Value) (n : Nat) (xs : List Value) (hs : a.eval s = v) (hown : w.ownsRow base e size v n xs)
    (ad : Addr) (m c : Nat) (news : List Value) (hx : a.eval x = .slice (some ad) m c) (hn : news.length = m * size) (hc : ∀ j u, news[j]? = some u → w.cell? (ad.add j) = some u) (h1c : ∀ u ∈ news, u.oneCell' = true)
    (b1 : n + m ≤ maxLen) (b2 : (n + m) * bytes ≤ 140737488355328) (hbase : base ≤ w.heap.size)
    (hK : ∀ v' w', w'.ownsRow base e size v' (n + m) (xs ++ news) → w.grownBy w' v.ownBlock → K (a.put o.dst v') w') :
    if Region.wanted o (yielded ops a.tmps) = true then Oper.wp P o a w K Q else E := by
  have hw : Region.wanted o (yielded ops a.tmps) = true := by simp [Region.wanted, hg]
  rw [if_pos hw]
  obtain ⟨v', w', hrun, r1, r2, _⟩ := run_append_own (P := P) w base t o.type e i z size bytes h1 h2 h3 h4 h5 h6 h7 v n xs hown ad m c news hn hc h1c b1 b2 hbase
  unfold Oper.wp
  simp [execOp, hop, resolve, invoke, builtin, hs, hx, hrun, Result.andThen]
  exact hK v' w' r1 r2

theorem own_join {w : World} {B n : Nat} {v a : Value} {xs ys : List Value} (h : w.ownsRow B 5 1 v (n + 1 + ys.length) (xs ++ [a] ++ ys)) : w.ownsRow B 5 1 v (n + (a :: ys).length) (xs ++ a :: ys) := by
  have e1 : n + (a :: ys).length = n + 1 + ys.length := by simp; omega
  have e2 : xs ++ a :: ys = xs ++ [a] ++ ys := by simp
  rw [e1, e2]
  exact h

set_option maxHeartbeats 400000 in
theorem uint_own1 (B n : Nat) (sv : Value) (xs : List Value) (v : Int) (h0 : 0 ≤ v) (h1 : v < 128) (w : World) (hown : w.ownsRow B 5 1 sv n xs) (hBw : B ≤ w.heap.size) (hn : n ≤ 1900000) :
    Calls Try.prog 25 #[sv, .int .u64 v] w (Wrote B n xs [.int .u8 (v)] w) := by
  obtain ⟨i0, hi, hz0, hz1, hz2⟩ := info_parts info5
  have hw8 : IntKind.u8.wrap v = v := by rw [IntKind.wrap_u8]; omega
  go_enter Try.func25, Try.ntmps25
  go_wp2_with (at_builtin; refine wpList_append_own _ rfl _ _ 39 rfl B 5 i0 (.int .u8 0) 1 1 Try.underlying39 hi hz0 hz1 hz2 rfl (by decide) _ _ _ rfl (hown.alloc _) _ 1 1 [.int .u8 (v)] rfl rfl ?c1 ?c2 ?c3 ?c4 ?c5 ?_)
  case c1 => exact cell_one_new _ _ _
  case c2 => intro u hu; simp at hu; subst hu; rfl
  case c3 => unfold maxLen; omega
  case c4 => omega
  case c5 => simp; omega
  intro v' w2 hown' hgrow _
  go_wp2
  go_ret
  exact ⟨v', rfl, hown', ((Below.refl B w).alloc hBw _).grown hgrow (by simp; omega) (fun k hk => (hown.lt k hk).1)⟩

set_option maxHeartbeats 400000 in
theorem uint_own2 (B n : Nat) (sv : Value) (xs : List Value) (v : Int) (h0 : 127 < v) (h1 : v ≤ 255) (w : World) (hown : w.ownsRow B 5 1 sv n xs) (hBw : B ≤ w.heap.size) (hn : n ≤ 1900000) :
    Calls Try.prog 25 #[sv, .int .u64 v] w (Wrote B n xs [.int .u8 (204), .int .u8 (v)] w) := by
  obtain ⟨i0, hi, hz0, hz1, hz2⟩ := info_parts info5
  have hw8 : IntKind.u8.wrap v = v := by rw [IntKind.wrap_u8]; omega
  go_enter Try.func25, Try.ntmps25
  go_wp2_with (at_builtin; refine wpList_append_own _ rfl _ _ 39 rfl B 5 i0 (.int .u8 0) 1 1 Try.underlying39 hi hz0 hz1 hz2 rfl (by decide) _ _ _ rfl (hown.alloc _) _ 2 2 [.int .u8 (204), .int .u8 (v)] rfl rfl ?c1 ?c2 ?c3 ?c4 ?c5 ?_)
  case c1 =>
    intro j u hj
    match j, hj with
    | 0, hj => simp at hj; subst hj; simp [Addr.add]
    | 1, hj => simp at hj; subst hj; simp [Addr.add]
  case c2 => intro u hu; simp at hu; rcases hu with rfl | rfl <;> rfl
  case c3 => unfold maxLen; omega
  case c4 => omega
  case c5 => simp; omega
  intro v' w2 hown' hgrow _
  go_wp2
  go_ret
  exact ⟨v', rfl, hown', ((Below.refl B w).alloc hBw _).grown hgrow (by simp; omega) (fun k hk => (hown.lt k hk).1)⟩

set_option maxHeartbeats 1000000 in
theorem uint_own3 (B n : Nat) (sv : Value) (xs : List Value) (v : Int) (h0 : 255 < v) (h1 : v ≤ 65535) (w : World) (hown : w.ownsRow B 5 1 sv n xs) (hBw : B ≤ w.heap.size) (hn : n ≤ 1900000) :
    Calls Try.prog 25 #[sv, .int .u64 v] w (Wrote B n xs [.int .u8 205, .int .u8 (v / 256), .int .u8 (v % 256)] w) := by
  obtain ⟨i0, hi, hz0, hz1, hz2⟩ := info_parts info5
  have hwr : IntKind.u16.wrap v = v := by rw [IntKind.wrap_u16]; omega
  go_enter Try.func25, Try.ntmps25
  go_wp2_with fail
  go_region_law (first
    | (refine step_append_own rfl (.tmp 25) (.tmp 26) 39 rfl B 5 i0 (.int .u8 0) 1 1 Try.underlying39 hi hz0 hz1 hz2 rfl (by decide) sv n xs (by simp [Act.eval]) (by exact hown.alloc _) _ 1 1 [.int .u8 205] (by simp [Act.eval]; rfl) rfl ?c1 ?c2 ?c3 ?c4 ?c5 ?_
       case c1 => exact cell_one_new w _ _
       case c2 => intro u hu; simp at hu; subst hu; rfl
       case c3 => unfold maxLen; omega
       case c4 => omega
       case c5 => simp; omega
       intro v1 w1 hown1 hgrow1
       have bel1 : Below B w w1 := ((Below.refl B w).alloc hBw _).grown (show World.grownBy (w.alloc _) w1 _ from ⟨hgrow1.os, hgrow1.tape, hgrow1.output, hgrow1.size, hgrow1.block⟩) (by simp; omega) (fun k hk => (hown.lt k hk).1)
       have hB1 : B ≤ w1.heap.size := Nat.le_trans hBw bel1.size
       clear hgrow1)
    | (go_simp
       go_at_call 29
       refine (u16_own B _ _ _ v (by omega) (by omega) _ (by exact hown1) (by exact hB1) (by omega)).mono ?_
       rintro e w2 ⟨v2, rfl, hown2, bel2⟩))
  all_goals
    go_wp2
    go_ret
    exact ⟨v2, rfl, own_join hown2, bel1.trans bel2⟩

set_option maxHeartbeats 1000000 in
theorem uint_own4 (B n : Nat) (sv : Value) (xs : List Value) (v : Int) (h0 : 65535 < v) (h1 : v ≤ 4294967295) (w : World) (hown : w.ownsRow B 5 1 sv n xs) (hBw : B ≤ w.heap.size) (hn : n ≤ 1900000) :
    Calls Try.prog 25 #[sv, .int .u64 v] w (Wrote B n xs [.int .u8 206, .int .u8 (v / 16777216), .int .u8 (v / 65536 % 256), .int .u8 (v / 256 % 256), .int .u8 (v % 256)] w) := by
  obtain ⟨i0, hi, hz0, hz1, hz2⟩ := info_parts info5
  have hwr : IntKind.u32.wrap v = v := by rw [IntKind.wrap_u32]; omega
  go_enter Try.func25, Try.ntmps25
  go_wp2_with fail
  go_region_law (first
    | (refine step_append_own rfl (.tmp 35) (.tmp 36) 39 rfl B 5 i0 (.int .u8 0) 1 1 Try.underlying39 hi hz0 hz1 hz2 rfl (by decide) sv n xs (by simp [Act.eval]) (by exact hown.alloc _) _ 1 1 [.int .u8 206] (by simp [Act.eval]; rfl) rfl ?c1 ?c2 ?c3 ?c4 ?c5 ?_
       case c1 => exact cell_one_new w _ _
       case c2 => intro u hu; simp at hu; subst hu; rfl
       case c3 => unfold maxLen; omega
       case c4 => omega
       case c5 => simp; omega
       intro v1 w1 hown1 hgrow1
       have bel1 : Below B w w1 := ((Below.refl B w).alloc hBw _).grown (show World.grownBy (w.alloc _) w1 _ from ⟨hgrow1.os, hgrow1.tape, hgrow1.output, hgrow1.size, hgrow1.block⟩) (by simp; omega) (fun k hk => (hown.lt k hk).1)
       have hB1 : B ≤ w1.heap.size := Nat.le_trans hBw bel1.size
       clear hgrow1)
    | (go_simp
       go_at_call 30
       refine (u32_own B _ _ _ v (by omega) (by omega) _ (by exact hown1) (by exact hB1) (by omega)).mono ?_
       rintro e w2 ⟨v2, rfl, hown2, bel2⟩))
  all_goals
    go_wp2
    go_ret
    exact ⟨v2, rfl, own_join hown2, bel1.trans bel2⟩

set_option maxHeartbeats 1000000 in
theorem uint_own5 (B n : Nat) (sv : Value) (xs : List Value) (v : Int) (h0 : 4294967295 < v) (h1 : v ≤ 18446744073709551615) (w : World) (hown : w.ownsRow B 5 1 sv n xs) (hBw : B ≤ w.heap.size) (hn : n ≤ 1900000) :
    Calls Try.prog 25 #[sv, .int .u64 v] w (Wrote B n xs [.int .u8 207, .int .u8 (v / 72057594037927936), .int .u8 (v / 281474976710656 % 256), .int .u8 (v / 1099511627776 % 256), .int .u8 (v / 4294967296 % 256), .int .u8 (v / 16777216 % 256), .int .u8 (v / 65536 % 256), .int .u8 (v / 256 % 256), .int .u8 (v % 256)] w) := by
  obtain ⟨i0, hi, hz0, hz1, hz2⟩ := info_parts info5
  go_enter Try.func25, Try.ntmps25
  go_wp2_with fail
  go_region_law (first
    | (refine step_append_own rfl (.tmp 42) (.tmp 43) 39 rfl B 5 i0 (.int .u8 0) 1 1 Try.underlying39 hi hz0 hz1 hz2 rfl (by decide) sv n xs (by simp [Act.eval]) (by exact hown.alloc _) _ 1 1 [.int .u8 207] (by simp [Act.eval]; rfl) rfl ?c1 ?c2 ?c3 ?c4 ?c5 ?_
       case c1 => exact cell_one_new w _ _
       case c2 => intro u hu; simp at hu; subst hu; rfl
       case c3 => unfold maxLen; omega
       case c4 => omega
       case c5 => simp; omega
       intro v1 w1 hown1 hgrow1
       have bel1 : Below B w w1 := ((Below.refl B w).alloc hBw _).grown (show World.grownBy (w.alloc _) w1 _ from ⟨hgrow1.os, hgrow1.tape, hgrow1.output, hgrow1.size, hgrow1.block⟩) (by simp; omega) (fun k hk => (hown.lt k hk).1)
       have hB1 : B ≤ w1.heap.size := Nat.le_trans hBw bel1.size
       clear hgrow1)
    | (go_simp
       go_at_call 31
       refine (u64_own B _ _ _ v (by omega) (by omega) _ (by exact hown1) (by exact hB1) (by omega)).mono ?_
       rintro e w2 ⟨v2, rfl, hown2, bel2⟩))
  all_goals
    go_wp2
    go_ret
    exact ⟨v2, rfl, own_join hown2, bel1.trans bel2⟩

end Go.Proofs.Qxb6603585a
