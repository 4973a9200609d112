/-
  '==' between two interface values of ONE string type: as the strings are. (After the kit's note on the like for integers.)
-/
import Derived.LaidEql
namespace Go.Proofs.Qxb6603585a
open Go
section
variable {P : Program} (w : World)

theorem run_equalIn_iface_string (d : Nat) {ti tn : TypeId} {ms : Array (String × TypeId)} {i : TypeInfo} (a b : ByteArray)
    (hi : P.underlying ti = some (.interface ms)) (hn : P.underlying tn = some .string) (hinfo : P.info? tn = some i) (hcomp : i.comparable = true) :
    (Op.equalIn (d + 2) ti (.iface tn (.string a)) (.iface tn (.string b))).run P w = .ok (a == b) w := by
  simp [Op.equalIn, run_underlying hi, run_underlying hn, typeInfo, hinfo, hcomp]

/-- 'x == y', both interface values of ONE string type: as the strings are. -/
theorem run_eql_iface_string {ti tn : TypeId} {ms : Array (String × TypeId)} {i : TypeInfo} (a b : ByteArray)
    (hi : P.underlying ti = some (.interface ms)) (hn : P.underlying tn = some .string) (hinfo : P.info? tn = some i) (hcomp : i.comparable = true) :
    (binOp .eql ti (.iface tn (.string a)) (.iface tn (.string b))).run P w = .ok (.bool (a == b)) w := by
  simp only [binOp]
  simp [Op.equal, Op.maxDepth, run_equalIn_iface_string w 9998 a b hi hn hinfo hcomp]
end
end Go.Proofs.Qxb6603585a
