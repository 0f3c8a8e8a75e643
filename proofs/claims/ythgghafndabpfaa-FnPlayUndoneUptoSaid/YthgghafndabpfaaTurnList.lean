/- The walk of TurnList. -/
import Derived.Test.YthgghafndabpfaaTurn
import Derived.Test.YthgghafndabpfaaSortList
namespace Go.Proofs.Ythgghafndabpfaa
open Go.RowKit

theorem rot_cons {α : Type} (xs : List α) (t : Nat) (ht : t < xs.length) : rot xs t = xs[t] :: (xs.drop (t + 1) ++ xs.take t) ∧ rot xs (t + 1) = (xs.drop (t + 1) ++ xs.take t) ++ [xs[t]] := by
  unfold rot
  constructor
  · rw [List.drop_eq_getElem_cons ht]; rfl
  · rw [List.take_succ_eq_append_getElem ht, List.append_assoc]

/-- The front one has gone to the back. -/
theorem holds_step {w wr w2 : World} {l : Nat} {es : List Nat} {e : Nat} {y : Int} {zs : List Int} (he : es[0]? = some e) (hge : ∀ b ∈ l :: es, w.heap.size ≤ b) (hb : Bl w wr) (h2 : LC w2 l (es.eraseIdx 0 ++ [e]) (zs.map I ++ [I y])) (c2 : Chg (· ∈ l :: es) wr w2) : HoldsL w w2 l (zs ++ [y]) := by
  refine ⟨_, by rw [List.map_append]; exact h2, fun b hb' => ?_, bl_chg hb c2 hge⟩
  rcases List.mem_cons.1 hb' with rfl | hb'
  · exact hge _ (by simp)
  · rcases List.mem_append.1 hb' with hb' | hb'
    · exact hge b (List.mem_cons_of_mem _ (List.mem_of_mem_eraseIdx hb'))
    · simp at hb'; subst hb'; exact hge _ (List.mem_cons_of_mem _ (List.mem_of_getElem? he))


end Go.Proofs.Ythgghafndabpfaa
