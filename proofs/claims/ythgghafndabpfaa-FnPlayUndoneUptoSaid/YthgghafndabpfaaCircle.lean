/- The walks of CircleList's reference. -/
import Derived.Test.YthgghafndabpfaaCirclePure
import Derived.Test.YthgghafndabpfaaSeq
namespace Go.Proofs.Ythgghafndabpfaa
open Go.RowKit

/-- What comes out. -/
def circleOf (n k : Int) : List Int := circle (farOf k) (nums (ix n 200))
theorem circleOf_len (n k : Int) : (circleOf n k).length < 200 := by
  unfold circleOf; rw [circle_len, nums_len]; exact ix_lt n (by omega)


end Go.Proofs.Ythgghafndabpfaa
