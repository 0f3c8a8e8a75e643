/- The walk of CircleRing. -/
import Derived.Test.YtebkmegkdcnfaaaCircle
import Derived.Test.YtebkmegkdcnfaaaRingCut
import Derived.Test.YtebkmegkdcnfaaaRingJoin
namespace Go.Proofs.Ytebkmegkdcnfaaa
open Go.RowKit


theorem nums_range (n : Nat) : (List.range n).map (fun j : Nat => (j : Int)) = nums n := by
  induction n with
  | zero => rfl
  | succ n ih => rw [List.range_succ, List.map_append, ih, nums_succ]; rfl



end Go.Proofs.Ytebkmegkdcnfaaa
