/-
  THE CALLEES OF THE TWO LAWS ON 'check': each computes what it says; contracts over any world.
-/
import Derived.Test.Qxb6603585aProg
import Derived.Test.Qxb6603585aEq
import Derived.WalkKit
import Derived.WalkSpells
import Derived.WalkLawsBesides
import Derived.RowKit3
import Derived.Carry
namespace Go.Proofs.Qxb6603585a
open Go.RowKit

theorem info45 : (Try.prog.info? 45).map (fun i => i.comparable) = some true := by kernel_rfl

/-- 'x == y' at type error, both of type protocol.Error. -/
theorem eql_err (w : World) (a b : ByteArray) : (binOp .eql 34 (.iface 45 (.string a)) (.iface 45 (.string b))).run Try.prog w = .ok (.bool (a == b)) w := by
  have h := info45
  cases hi : Try.prog.info? 45 with
  | none => rw [hi] at h; simp at h
  | some i =>
    rw [hi] at h
    exact run_eql_iface_string w a b Try.underlying34 Try.underlying45 hi (by simpa using h)

/-- 'x == y' at type error, x nil and y not. -/
theorem eql_nil_err (w : World) (v : Value) : (binOp .eql 34 .nilIface (.iface 45 v)).run Try.prog w = .ok (.bool false) w :=
  run_eql_iface_nil_left w 45 v Try.underlying34

/-- The bytes of "bad-request". -/
abbrev badReq : ByteArray := { data := #[98, 97, 100, 45, 114, 101, 113, 117, 101, 115, 116] }

/-- ZZnewRequest, no error. -/
theorem newReq_ok (id : Int) (cmd : ByteArray) (w : World) :
    Calls Try.prog 10 #[.int .u64 id, .string cmd, .bool false] w fun e w' => e = .returned (.pointer (some ⟨w.heap.size + 1, 0, none⟩)) ∧
      w' = ((w.alloc (.map #[] 0)).alloc (.cells #[.int .u64 id, .string cmd, .map (some w.heap.size), .nilIface] 36)) := by
  have hmm := @run_makeMap Try.prog
  go_enter Try.func10, Try.ntmps10
  go_wp2
  go_ret
  exact ⟨rfl, rfl⟩

/-- ZZnewRequest, failed. -/
theorem newReq_bad (id : Int) (cmd : ByteArray) (w : World) :
    Calls Try.prog 10 #[.int .u64 id, .string cmd, .bool true] w fun e w' => e = .returned (.pointer (some ⟨w.heap.size + 1, 0, none⟩)) ∧
      w' = ((w.alloc (.map #[] 0)).alloc (.cells #[.int .u64 id, .string cmd, .map (some w.heap.size), .iface 45 (.string badReq)] 36)) := by
  have hmm := @run_makeMap Try.prog
  go_enter Try.func10, Try.ntmps10
  go_wp2
  go_ret
  exact ⟨rfl, rfl⟩

/-- ZZfailed. -/
theorem failed_no (b : Nat) (w : World) (h : w.cell? ⟨b, 3, none⟩ = some .nilIface) :
    Calls Try.prog 11 #[.pointer (some ⟨b, 0, none⟩)] w fun e w' => e = .returned (.bool false) ∧ w' = w := by
  go_enter Try.func11, Try.ntmps11
  go_wp2
  go_ret
  exact ⟨rfl, rfl⟩
theorem failed_yes (b : Nat) (s : ByteArray) (w : World) (h : w.cell? ⟨b, 3, none⟩ = some (.iface 45 (.string s))) :
    Calls Try.prog 11 #[.pointer (some ⟨b, 0, none⟩)] w fun e w' => e = .returned (.bool true) ∧ w' = w := by
  go_enter Try.func11, Try.ntmps11
  go_wp2
  go_ret
  exact ⟨rfl, rfl⟩

/-- ZZerrIsBadRequest. -/
theorem isBad_no (b : Nat) (w : World) (h : w.cell? ⟨b, 3, none⟩ = some .nilIface) :
    Calls Try.prog 12 #[.pointer (some ⟨b, 0, none⟩)] w fun e w' => e = .returned (.bool false) ∧ w' = w := by
  have he := eql_nil_err
  go_enter Try.func12, Try.ntmps12
  go_wp2
  go_ret
  exact ⟨rfl, rfl⟩
theorem isBad_yes (b : Nat) (w : World) (h : w.cell? ⟨b, 3, none⟩ = some (.iface 45 (.string badReq))) :
    Calls Try.prog 12 #[.pointer (some ⟨b, 0, none⟩)] w fun e w' => e = .returned (.bool true) ∧ w' = w := by
  have he := eql_err
  go_enter Try.func12, Try.ntmps12
  go_wp2
  go_ret
  exact ⟨rfl, rfl⟩

/-- ZZerrIs. -/
theorem errIs_no (b : Nat) (code : ByteArray) (w : World) (h : w.cell? ⟨b, 3, none⟩ = some .nilIface) :
    Calls Try.prog 15 #[.pointer (some ⟨b, 0, none⟩), .string code] w fun e w' => e = .returned (.bool false) ∧ w' = w := by
  have he := eql_nil_err
  go_enter Try.func15, Try.ntmps15
  go_wp2
  go_ret
  exact ⟨rfl, rfl⟩
theorem errIs_other (b : Nat) (s code : ByteArray) (hne : (s == code) = false) (w : World) (h : w.cell? ⟨b, 3, none⟩ = some (.iface 45 (.string s))) :
    Calls Try.prog 15 #[.pointer (some ⟨b, 0, none⟩), .string code] w fun e w' => e = .returned (.bool false) ∧ w' = w := by
  have he := eql_err
  go_enter Try.func15, Try.ntmps15
  go_wp2
  go_ret
  exact ⟨rfl, rfl⟩

/-- ZZcheckWith, handed nil. -/
theorem checkWith_no (b : Nat) (code : ByteArray) (w : World) :
    Calls Try.prog 13 #[.pointer (some ⟨b, 0, none⟩), .string code, .bool false] w fun e w' => e = .returned (.tuple #[]) ∧ w' = w := by
  go_enter Try.func13, Try.ntmps13
  go_wp2
  go_end0
  go_wp2
  go_end0
  exact ⟨rfl, rfl⟩
/-- ZZcheckWith, handed an error. -/
theorem checkWith_yes (b : Nat) (code : ByteArray) (v : Value) (w : World) (h : w.cell? ⟨b, 3, none⟩ = some v) (hf : w.frozen? ⟨b, 3, none⟩ = false) :
    Calls Try.prog 13 #[.pointer (some ⟨b, 0, none⟩), .string code, .bool true] w fun e w' => e = .returned (.tuple #[]) ∧ w' = w.setCell ⟨b, 3, none⟩ (.iface 45 (.string badReq)) := by
  go_enter Try.func13, Try.ntmps13
  go_wp2
  go_end0
  go_wp2
  go_end0
  exact ⟨rfl, rfl⟩
/-- The bound on lengths (zzBytes_..): within it, true. -/
theorem bytes14 (id : Int) (cmd code : ByteArray) (f g : Bool) (w : World) (s3 : (cmd.size : Int) + code.size ≤ 1048576) :
    Calls Try.prog 14 #[.int .u64 id, .string cmd, .bool f, .bool g, .string code] w fun e w' => e = .returned (.bool true) ∧ w' = w := by
  have s1 : ¬ (1048576 : Int) < cmd.size := by omega
  have s2 : ¬ (1048576 : Int) < code.size := by omega
  go_enter Try.func14, Try.ntmps14
  go_wp2
  go_ret
  exact ⟨rfl, rfl⟩
end Go.Proofs.Qxb6603585a
