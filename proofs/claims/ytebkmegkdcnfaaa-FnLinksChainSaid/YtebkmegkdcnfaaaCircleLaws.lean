/- FnCircleBoth, FnCircleEnds and FnCircleRecurs return true: the walks of the laws. -/
import Derived.Test.YtebkmegkdcnfaaaCircleList
import Derived.Test.YtebkmegkdcnfaaaCircleRing
import Derived.Test.YtebkmegkdcnfaaaCircleMore
import Derived.Test.YtebkmegkdcnfaaaTurnLaws
import Derived.Test.YtebkmegkdcnfaaaOrder
namespace Go.Proofs.Ytebkmegkdcnfaaa
open Go.RowKit



theorem own_one (w : World) (e : TypeId) (u : Value) : (w.alloc (.cells #[u] e)).ownsRow w.heap.size e 1 (.slice (some ⟨w.heap.size, 0, none⟩) 1 1) 1 [u] :=
  ⟨rfl, .inr ⟨w.heap.size, 1, #[u], rfl, Nat.le_refl _, heap_alloc_new w _, Nat.le_refl _, by unfold maxLen; omega, by simp, by simp⟩⟩


end Go.Proofs.Ytebkmegkdcnfaaa
