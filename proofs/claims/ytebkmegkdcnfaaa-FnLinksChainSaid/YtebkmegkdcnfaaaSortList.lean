/- The walk of SortList. -/
import Derived.Test.YtebkmegkdcnfaaaSort
import Derived.Test.YtebkmegkdcnfaaaListMove2
namespace Go.Proofs.Ytebkmegkdcnfaaa
open Go.RowKit

section
variable {w w' : World} {l : Nat} {es : List Nat} {vs : List Value}


/-- A list of the numbers xs whose blocks came since w. -/
def HoldsL (w wr : World) (l : Nat) (xs : List Int) : Prop := ∃ es, LC wr l es (xs.map I) ∧ (∀ b ∈ l :: es, w.heap.size ≤ b) ∧ Bl w wr

end

end Go.Proofs.Ytebkmegkdcnfaaa
