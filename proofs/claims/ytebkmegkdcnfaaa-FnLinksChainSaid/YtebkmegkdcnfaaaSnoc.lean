/- Rows of one's own: one more at the end. -/
import Derived.Test.YtebkmegkdcnfaaaRowsS2
namespace Go.Proofs.Ytebkmegkdcnfaaa
open Go.RowKit

theorem ints_val {w : World} {v : Value} {xs : List Int} (h : Ints w v xs) : ∃ n A c, v = Value.slice A n c := by
  obtain ⟨A, c, h, _⟩ := h.open; exact ⟨_, A, c, h⟩

/-- One row more. -/
theorem OwnSS.snoc {w w1 w2 : World} {base : Nat} {v v' : Value} {rows : List (List Int)} {us : List Value} {u : Value} {xs : List Int} (h : OwnSS w base v rows us) (hbase : base ≤ w.heap.size) (hb : Bl w w1) (hu : OwnI w1 w.heap.size u xs)
    (ho : w2.ownsRow base 23 1 v' (rows.length + 1) (us ++ [u])) (hc : Chg (fun k => v.ownBlock = some k) w1 w2) : OwnSS w2 base v' (rows ++ [xs]) (us ++ [u]) := by
  have hus : us.length = rows.length := by have := h.own.1; omega
  have hv1 := own_bl h.own hb
  refine ⟨by rw [List.length_append]; exact ho, fun k hk => ?_, fun i j a b hij hi hj g hg hg' => ?_⟩
  · rw [List.length_append] at hk
    simp only [List.length_cons, List.length_nil] at hk
    rcases (by omega : k < rows.length ∨ k = rows.length) with h1 | h1
    · obtain ⟨y, e, hy⟩ := h.row k h1
      refine ⟨y, by rw [List.getElem?_append_left (by omega)]; exact e, ?_⟩
      rw [List.getElem_append_left h1]
      have hy1 := own_bl hy hb
      exact own_chg hy1 hc (own_ne hy1 hv1 (by decide))
    · subst h1
      refine ⟨u, by rw [List.getElem?_append_right (by omega), hus]; simp, ?_⟩
      rw [List.getElem_append_right (by omega)]
      simp only [Nat.sub_self, List.getElem_cons_zero]
      have hu1 := own_base hu hbase
      exact own_chg hu1 hc (own_ne hu1 hv1 (by decide))
  · have hjl : j < us.length + 1 := by
      have := (List.getElem?_eq_some_iff.1 hj).1
      simpa using this
    rw [List.getElem?_append_left (by omega)] at hi
    rcases (by omega : j < us.length ∨ j = us.length) with h1 | h1
    · rw [List.getElem?_append_left h1] at hj
      exact h.sep i j a b hij hi hj g hg hg'
    · subst h1
      rw [List.getElem?_append_right (Nat.le_refl _)] at hj
      simp at hj
      subst hj
      have l1 := (h.lt g (.inr ⟨a, List.mem_of_getElem? hi, hg⟩)).2
      have l2 := (own_lt hu g hg').1
      omega

end Go.Proofs.Ytebkmegkdcnfaaa
