/- The walk of SortList. -/
import Derived.Test.YthgghafndabpfaaSort
import Derived.Test.YthgghafndabpfaaListMove2
namespace Go.Proofs.Ythgghafndabpfaa
open Go.RowKit

section
variable {w w' : World} {l : Nat} {es : List Nat} {vs : List Value}


/-- A list of the numbers xs whose blocks came since w. -/
def HoldsL (w wr : World) (l : Nat) (xs : List Int) : Prop := ∃ es, LC wr l es (xs.map I) ∧ (∀ b ∈ l :: es, w.heap.size ≤ b) ∧ Bl w wr

end

end Go.Proofs.Ythgghafndabpfaa
