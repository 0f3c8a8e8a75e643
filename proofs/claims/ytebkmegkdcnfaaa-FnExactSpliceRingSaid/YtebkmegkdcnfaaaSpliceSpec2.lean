/- The walk of SpliceRing's reference. -/
import Derived.Test.YtebkmegkdcnfaaaSpliceSpec
namespace Go.Proofs.Ytebkmegkdcnfaaa
open Go.RowKit

set_option maxRecDepth 100000 in
set_option maxHeartbeats 400000 in
theorem SpliceRing_spec (v : Value) (xs : List Int) (i k : Int) (w : World) (hv : Ints w v xs) (hl : xs.length ≤ 17592186043904) :
    Calls Try.prog 30 #[v, .int .i64 i, .int .i64 k] w (New2 w (leftOf xs i k) (takenOf xs i k)) := by
  have HV := Lib.hid hv
  clear hv
  go_enter Try.func30, Try.ntmps30
  go_wp2_with fail
  refine (SpliceList_spec v xs i k _ HV.out hl).mono ?_
  rintro e w1 ⟨v1, t1, rfl, o1, q1, s1, b1⟩
  have O1 := Lib.hid o1
  have Q1 := Lib.hid q1
  have S1 := Lib.hid s1
  have B1 := Lib.hid b1
  clear o1 q1 s1 b1
  go_wp2
  go_ret2
  exact ⟨_, _, rfl, O1.out, Q1.out, S1.out, B1.out⟩

end Go.Proofs.Ytebkmegkdcnfaaa
