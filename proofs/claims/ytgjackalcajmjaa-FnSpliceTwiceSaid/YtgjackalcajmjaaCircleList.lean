/- The walk of CircleList. -/
import Derived.Test.YtgjackalcajmjaaCircle
import Derived.Test.YtgjackalcajmjaaTurnList
namespace Go.Proofs.Ytgjackalcajmjaa
open Go.RowKit

/-- The front one is out. -/
theorem holds_out {w wr w2 : World} {l : Nat} {es : List Nat} {zs : List Int} (hge : ∀ b ∈ l :: es, w.heap.size ≤ b) (hb : Bl w wr) (h2 : LC w2 l (es.eraseIdx 0) (zs.map I)) (c2 : Chg (· ∈ l :: es) wr w2) : HoldsL w w2 l zs := by
  refine ⟨_, h2, fun b hb' => ?_, bl_chg hb c2 hge⟩
  rcases List.mem_cons.1 hb' with rfl | hb'
  · exact hge _ (by simp)
  · exact hge b (List.mem_cons_of_mem _ (List.mem_of_mem_eraseIdx hb'))


end Go.Proofs.Ytgjackalcajmjaa
