/-
  appendHead(dst, id, ok), dst FULL (its capacity is its length) OR nil: dst's bytes, then 'headL id ok', in a new array; below the heap's old end nothing has turned. And b1UintWidth.
-/
import Derived.Test.Qxb6603585aUint
import Derived.Test.Qxb6603585aRow
namespace Go.Proofs.Qxb6603585a
open Go.RowKit

/-- The shortest msgpack form of an unsigned integer. -/
def uintL (v : Int) : List Int :=
  if v < 128 then [v] else if v ≤ 255 then [204, v] else if v ≤ 65535 then [205, v / 256, v % 256]
  else if v ≤ 4294967295 then [206, v / 16777216, v / 65536 % 256, v / 256 % 256, v % 256]
  else [207, v / 72057594037927936, v / 281474976710656 % 256, v / 1099511627776 % 256, v / 4294967296 % 256, v / 16777216 % 256, v / 65536 % 256, v / 256 % 256, v % 256]
/-- The head. -/
def headL (id : Int) (ok : Bool) : List Int := 131 :: 162 :: 105 :: 100 :: (uintL id ++ [162, 111, 107, if ok then 195 else 194])
/-- Bytes as cells. -/
def cells (l : List Int) : List Value := l.map (Value.int .u8)

theorem uintL_length (v : Int) : 1 ≤ (uintL v).length ∧ (uintL v).length ≤ 9 := by
  unfold uintL
  split
  · simp
  split
  · simp
  split
  · simp
  split <;> simp
theorem headL_length (id : Int) (ok : Bool) : (headL id ok).length = 8 + (uintL id).length := by simp [headL]; omega

theorem ownsRow_cast {w : World} {B n n' : Nat} {v : Value} {xs xs' : List Value} (h : w.ownsRow B 5 1 v n xs) (en : n' = n) (ex : xs' = xs) : w.ownsRow B 5 1 v n' xs' := by subst en ex; exact h

/-- appendUint, dst owned. -/
theorem uint_own (B n : Nat) (sv : Value) (xs : List Value) (v : Int) (h0 : 0 ≤ v) (h1 : v ≤ 18446744073709551615) (w : World) (hown : w.ownsRow B 5 1 sv n xs) (hBw : B ≤ w.heap.size) (hn : n ≤ 1900000) :
    Calls Try.prog 25 #[sv, .int .u64 v] w (Wrote B n xs (cells (uintL v)) w) := by
  unfold uintL
  by_cases c1 : v < 128
  · rw [if_pos c1]; exact uint_own1 B n sv xs v h0 c1 w hown hBw hn
  rw [if_neg c1]
  by_cases c2 : v ≤ 255
  · rw [if_pos c2]; exact uint_own2 B n sv xs v (by omega) c2 w hown hBw hn
  rw [if_neg c2]
  by_cases c3 : v ≤ 65535
  · rw [if_pos c3]; exact uint_own3 B n sv xs v (by omega) c3 w hown hBw hn
  rw [if_neg c3]
  by_cases c4 : v ≤ 4294967295
  · rw [if_pos c4]; exact uint_own4 B n sv xs v (by omega) c4 w hown hBw hn
  rw [if_neg c4]
  exact uint_own5 B n sv xs v (by omega) h1 w hown hBw hn

/-- appendMapHeader(dst, 3), dst full. -/
theorem map_full (ao : Option Addr) (n : Nat) (olds : List Value) (w : World) (hn : n ≤ 1048576) (hnone : ao = none → n = 0 ∧ n = 0) (hlo : olds.length = n * 1) (holds : ∀ b, ao = some b → ∀ (j : Nat) u, olds[j]? = some u → w.cell? (b.add j) = some u) :
    Calls Try.prog 24 #[.slice ao n n, .int .i64 3] w (Wrote w.heap.size n olds [.int .u8 131] w) := by
  have hc := length_full ao n olds w hn hnone hlo holds
  have H : Hid (Calls Try.prog 28 #[.slice ao n n, .int .i64 3, .int .u8 128, .int .i64 15, .int .u8 0, .int .u8 222, .int .u8 223] w (Wrote w.heap.size n olds [.int .u8 131] w)) := hc
  clear hc holds hnone
  go_enter Try.func24, Try.ntmps24
  go_wp2_with fail
  refine H.out.mono ?_
  rintro e w1 ⟨v1, rfl, hown1, bel1⟩
  go_wp2
  go_ret
  exact ⟨v1, rfl, hown1, bel1⟩

theorem str_id : Lib.strCells { data := #[105, 100] } = [.int .u8 105, .int .u8 100] := rfl
theorem str_ok : Lib.strCells { data := #[111, 107] } = [.int .u8 111, .int .u8 107] := rfl

set_option maxHeartbeats 400000 in
/-- appendHead, dst full. -/
theorem head_full (ao : Option Addr) (n : Nat) (olds : List Value) (id : Int) (ok : Bool) (h0 : 0 ≤ id) (h1 : id ≤ 18446744073709551615) (w : World) (hn : n ≤ 1048576) (hnone : ao = none → n = 0 ∧ n = 0) (hlo : olds.length = n * 1) (holds : ∀ b, ao = some b → ∀ (j : Nat) u, olds[j]? = some u → w.cell? (b.add j) = some u) :
    Calls Try.prog 23 #[.slice ao n n, .int .u64 id, .bool ok] w (Wrote w.heap.size n olds (cells (headL id ok)) w) := by
  have hc := map_full ao n olds w hn hnone hlo holds
  have H : Hid (Calls Try.prog 24 #[.slice ao n n, .int .i64 3] w (Wrote w.heap.size n olds [.int .u8 131] w)) := hc
  have HL := uintL_length id
  have Hl : Hid ((uintL id).length ≤ 9) := HL.2
  clear hc holds hnone hlo HL
  go_enter Try.func23, Try.ntmps23
  go_wp2_with fail
  refine H.out.mono ?_
  rintro e w1 ⟨v1, rfl, hown1, bel1⟩
  have hB1 : w.heap.size ≤ w1.heap.size := bel1.size
  go_wp2_with fail
  refine (string_own w.heap.size _ v1 _ { data := #[105, 100] } rfl w1 hown1 hB1 (by simp; omega)).mono ?_
  rintro e w2 ⟨v2, rfl, hown2, bel2⟩
  have hB2 : w.heap.size ≤ w2.heap.size := Nat.le_trans hB1 bel2.size
  go_wp2_with fail
  refine (uint_own w.heap.size _ v2 _ id h0 h1 w2 hown2 hB2 (by simp [str_id]; omega)).mono ?_
  rintro e w3 ⟨v3, rfl, hown3, bel3⟩
  have hB3 : w.heap.size ≤ w3.heap.size := Nat.le_trans hB2 bel3.size
  go_wp2_with fail
  refine (string_own w.heap.size _ v3 _ { data := #[111, 107] } rfl w3 hown3 hB3 (by have := Hl.out; simp [str_id, cells]; omega)).mono ?_
  rintro e w4 ⟨v4, rfl, hown4, bel4⟩
  have hB4 : w.heap.size ≤ w4.heap.size := Nat.le_trans hB3 bel4.size
  go_wp2_with fail
  refine (bool_own w.heap.size _ v4 _ ok w4 hown4 hB4 (by have := Hl.out; simp [str_id, str_ok, cells]; omega)).mono ?_
  rintro e w5 ⟨v5, rfl, hown5, bel5⟩
  go_wp2
  go_ret
  refine ⟨v5, rfl, ownsRow_cast hown5 ?_ ?_, bel1.trans (bel2.trans (bel3.trans (bel4.trans bel5)))⟩
  · simp [headL, cells, str_id, str_ok]; omega
  · rw [str_id, str_ok]; simp [headL, cells]

set_option maxHeartbeats 400000 in
/-- ZZappendHead, dst full. -/
theorem zzhead_full (ao : Option Addr) (n : Nat) (olds : List Value) (id : Int) (ok : Bool) (h0 : 0 ≤ id) (h1 : id ≤ 18446744073709551615) (w : World) (hn : n ≤ 1048576) (hnone : ao = none → n = 0 ∧ n = 0) (hlo : olds.length = n * 1) (holds : ∀ b, ao = some b → ∀ (j : Nat) u, olds[j]? = some u → w.cell? (b.add j) = some u) :
    Calls Try.prog 19 #[.slice ao n n, .int .u64 id, .bool ok] w (Wrote w.heap.size n olds (cells (headL id ok)) w) := by
  have hc := head_full ao n olds id ok h0 h1 w hn hnone hlo holds
  have H : Hid (Calls Try.prog 23 #[.slice ao n n, .int .u64 id, .bool ok] w (Wrote w.heap.size n olds (cells (headL id ok)) w)) := hc
  clear hc holds hnone hlo
  go_enter Try.func19, Try.ntmps19
  go_wp2_with fail
  refine H.out.mono ?_
  rintro e w1 ⟨v1, rfl, hown1, bel1⟩
  go_wp2
  go_ret
  exact ⟨v1, rfl, hown1, bel1⟩

/-- b1UintWidth. -/
theorem width (v : Int) (w : World) : Calls Try.prog 18 #[.int .u64 v] w fun e w' => e = .returned (.int .i64 (uintL v).length) ∧ w' = w := by
  unfold uintL
  by_cases c1 : v < 128
  · rw [if_pos c1]
    go_enter Try.func18, Try.ntmps18
    go_wp2
    go_ret
    exact ⟨rfl, rfl⟩
  rw [if_neg c1]
  by_cases c2 : v ≤ 255
  · rw [if_pos c2]
    have d2 : v < 256 := by omega
    go_enter Try.func18, Try.ntmps18
    go_wp2
    go_ret
    exact ⟨rfl, rfl⟩
  rw [if_neg c2]
  by_cases c3 : v ≤ 65535
  · rw [if_pos c3]
    have d2 : ¬ v < 256 := by omega
    have d3 : v < 65536 := by omega
    go_enter Try.func18, Try.ntmps18
    go_wp2
    go_ret
    exact ⟨rfl, rfl⟩
  rw [if_neg c3]
  by_cases c4 : v ≤ 4294967295
  · rw [if_pos c4]
    have d2 : ¬ v < 256 := by omega
    have d3 : ¬ v < 65536 := by omega
    have d4 : v < 4294967296 := by omega
    go_enter Try.func18, Try.ntmps18
    go_wp2
    go_ret
    exact ⟨rfl, rfl⟩
  rw [if_neg c4]
  have d2 : ¬ v < 256 := by omega
  have d3 : ¬ v < 65536 := by omega
  have d4 : ¬ v < 4294967296 := by omega
  go_enter Try.func18, Try.ntmps18
  go_wp2
  go_ret
  exact ⟨rfl, rfl⟩
end Go.Proofs.Qxb6603585a
