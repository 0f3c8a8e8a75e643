/- FnSortJoined returns true: the walk of the law. -/
import Derived.Test.YthomhekbikpcfaaSortLaws
import Derived.Test.YthomhekbikpcfaaJoinLaws
import Derived.Test.YthomhekbikpcfaaTurnList
namespace Go.Proofs.Ythomhekbikpcfaa
open Go.RowKit

theorem rot_perm' {α : Type} (xs : List α) (k : Nat) : (rot xs k).Perm xs := by
  unfold rot
  have h := (List.perm_append_comm (l₁ := xs.drop k) (l₂ := xs.take k))
  rwa [List.take_append_drop] at h
theorem sorted_turn (xs : List Int) (k : Int) : sorted (turnOf xs k) = sorted xs := sorted_congr (rot_perm' _ _)

/-- One row more. -/
theorem OwnSS.snoc {w w1 w2 : World} {base : Nat} {v v' : Value} {rows : List (List Int)} {us : List Value} {u : Value} {xs : List Int} (h : OwnSS w base v rows us) (hbase : base ≤ w.heap.size) (hb : Bl w w1) (hu : OwnI w1 w.heap.size u xs)
    (ho : w2.ownsRow base 24 1 v' (rows.length + 1) (us ++ [u])) (hc : Chg (fun k => v.ownBlock = some k) w1 w2) : OwnSS w2 base v' (rows ++ [xs]) (us ++ [u]) := by
  have hus : us.length = rows.length := by have := h.own.1; omega
  have hv1 := own_bl h.own hb
  refine ⟨by rw [List.length_append]; exact ho, fun k hk => ?_, fun i j a b hij hi hj g hg hg' => ?_⟩
  · rw [List.length_append] at hk
    simp only [List.length_cons, List.length_nil] at hk
    rcases (by omega : k < rows.length ∨ k = rows.length) with h1 | h1
    · obtain ⟨y, e, hy⟩ := h.row k h1
      refine ⟨y, by rw [List.getElem?_append_left (by omega)]; exact e, ?_⟩
      rw [List.getElem_append_left h1]
      have hy1 := own_bl hy hb
      exact own_chg hy1 hc (own_ne hy1 hv1 (by decide))
    · subst h1
      refine ⟨u, by rw [List.getElem?_append_right (by omega), hus]; simp, ?_⟩
      rw [List.getElem_append_right (by omega)]
      simp only [Nat.sub_self, List.getElem_cons_zero]
      have hu1 := own_base hu hbase
      exact own_chg hu1 hc (own_ne hu1 hv1 (by decide))
  · have hjl : j < us.length + 1 := by
      have := (List.getElem?_eq_some_iff.1 hj).1
      simpa using this
    rw [List.getElem?_append_left (by omega)] at hi
    rcases (by omega : j < us.length ∨ j = us.length) with h1 | h1
    · rw [List.getElem?_append_left h1] at hj
      exact h.sep i j a b hij hi hj g hg hg'
    · subst h1
      rw [List.getElem?_append_right (Nat.le_refl _)] at hj
      simp at hj
      subst hj
      have l1 := (h.lt g (.inr ⟨a, List.mem_of_getElem? hi, hg⟩)).2
      have l2 := (own_lt hu g hg').1
      omega


end Go.Proofs.Ythomhekbikpcfaa
