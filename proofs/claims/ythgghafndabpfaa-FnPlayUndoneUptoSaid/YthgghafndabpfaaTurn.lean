/- The walks of the turns: of the reference, and over a ring. -/
import Derived.Test.YthgghafndabpfaaSeq
namespace Go.Proofs.Ythgghafndabpfaa
open Go.RowKit

/-- A list that is turned. -/
def turnOf (xs : List Int) (a : Int) : List Int := rot xs (ix (farOf a) xs.length)
theorem turnOf_len (xs : List Int) (a : Int) : (turnOf xs a).length = xs.length := rot_len _ _
theorem turnOf_nil (a : Int) : turnOf [] a = [] := by simp [turnOf, rot]




end Go.Proofs.Ythgghafndabpfaa
