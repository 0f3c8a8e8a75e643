/- Sorting: what comes out does not fall, and is what was given. -/
import Derived.Test.YthomhekbikpcfaaSortPure
namespace Go.Proofs.Ythomhekbikpcfaa

theorem posB_spec (l : List Int) (v : Int) (i : Nat) : (∀ j, posB l v i ≤ j → j < i → v < l.getD j 0) ∧ (0 < posB l v i → l.getD (posB l v i - 1) 0 ≤ v) := by
  induction i with
  | zero => exact ⟨fun j h1 h2 => by omega, fun h => by simp [posB] at h⟩
  | succ i ih =>
    unfold posB
    split
    · rename_i h
      refine ⟨fun j h1 h2 => ?_, ih.2⟩
      rcases (by omega : j < i ∨ j = i) with h3 | rfl
      · exact ih.1 j h1 h3
      · exact h
    · rename_i h
      exact ⟨fun j h1 h2 => by omega, fun _ => by show l.getD i 0 ≤ v; omega⟩

theorem insS_sorted {l : List Int} (h : l.Pairwise (· ≤ ·)) (v : Int) : (insS l v).Pairwise (· ≤ ·) := by
  have hs := posB_spec l v l.length
  have hle := posB_le l v l.length
  unfold insS
  generalize posB l v l.length = p at *
  have hget := List.pairwise_iff_getElem.1 h
  have h1 : ∀ b ∈ l.drop p, v < b := by
    intro b hb
    obtain ⟨j, hj, rfl⟩ := List.getElem_of_mem hb
    rw [List.length_drop] at hj
    rw [List.getElem_drop]
    have := hs.1 (p + j) (by omega) (by omega)
    rwa [List.getD_eq_getElem?_getD, List.getElem?_eq_getElem (by omega)] at this
  have h2 : ∀ a ∈ l.take p, a ≤ v := by
    intro a ha
    obtain ⟨j, hj, rfl⟩ := List.getElem_of_mem ha
    rw [List.length_take] at hj
    rw [List.getElem_take]
    have h3 := hs.2 (by omega)
    rw [List.getD_eq_getElem?_getD, List.getElem?_eq_getElem (by omega)] at h3
    rcases (by omega : j < p - 1 ∨ j = p - 1) with h4 | rfl
    · have := hget j (p - 1) (by omega) (by omega) h4
      exact Int.le_trans this h3
    · exact h3
  unfold ins
  rw [List.pairwise_append]
  refine ⟨h.sublist (List.take_sublist _ _), List.pairwise_cons.2 ⟨fun b hb => by have := h1 b hb; omega, h.sublist (List.drop_sublist _ _)⟩, fun a ha b hb => ?_⟩
  rcases List.mem_cons.1 hb with rfl | hb
  · exact h2 a ha
  · have := h2 a ha; have := h1 b hb; omega
theorem insS_perm (l : List Int) (v : Int) : (insS l v).Perm (v :: l) := by
  unfold insS ins
  refine List.perm_middle.trans ?_
  rw [List.take_append_drop]
theorem fold_sorted (xs : List Int) : ∀ l : List Int, l.Pairwise (· ≤ ·) → (xs.foldl insS l).Pairwise (· ≤ ·) ∧ (xs.foldl insS l).Perm (xs ++ l) := by
  induction xs with
  | nil => intro l h; exact ⟨h, List.Perm.refl _⟩
  | cons x xs ih =>
    intro l h
    obtain ⟨h1, h2⟩ := ih _ (insS_sorted h x)
    refine ⟨h1, h2.trans ?_⟩
    refine (List.Perm.append_left xs (insS_perm l x)).trans ?_
    exact List.perm_middle
theorem sorted_sorted (xs : List Int) : (sorted xs).Pairwise (· ≤ ·) := (fold_sorted xs [] List.Pairwise.nil).1
theorem sorted_perm (xs : List Int) : (sorted xs).Perm xs := by
  have := (fold_sorted xs [] List.Pairwise.nil).2
  rwa [List.append_nil] at this
theorem sorted_uniq : ∀ {a b : List Int}, a.Pairwise (· ≤ ·) → b.Pairwise (· ≤ ·) → a.Perm b → a = b := by
  intro a
  induction a with
  | nil => intro b _ _ h; exact (List.nil_perm.1 h).symm
  | cons x a ih =>
    intro b ha hb h
    cases b with
    | nil => exact absurd (List.perm_nil.1 h) (by simp)
    | cons y b =>
      have e : x = y := by
        have h1 : x ∈ y :: b := h.mem_iff.1 (by simp)
        have h2 : y ∈ x :: a := h.mem_iff.2 (by simp)
        have ha' := (List.pairwise_cons.1 ha).1
        have hb' := (List.pairwise_cons.1 hb).1
        rcases List.mem_cons.1 h1 with h1 | h1
        · exact h1
        · rcases List.mem_cons.1 h2 with h2 | h2
          · exact h2.symm
          · have := ha' y h2; have := hb' x h1; omega
      subst e
      rw [ih (List.pairwise_cons.1 ha).2 (List.pairwise_cons.1 hb).2 (List.Perm.cons_inv h)]
theorem sorted_congr {a b : List Int} (h : a.Perm b) : sorted a = sorted b :=
  sorted_uniq (sorted_sorted a) (sorted_sorted b) (((sorted_perm a).trans h).trans (sorted_perm b).symm)
theorem sorted_parts (rows : List (List Int)) : sorted ((rows.map sorted).flatten) = sorted rows.flatten := by
  apply sorted_congr
  induction rows with
  | nil => exact List.Perm.refl _
  | cons r rs ih => rw [List.map_cons, List.flatten_cons, List.flatten_cons]; exact (sorted_perm r).append ih
theorem sorted_le (xs : List Int) (k : Nat) (hk : k + 1 < (sorted xs).length) : (sorted xs)[k] ≤ (sorted xs)[k + 1] :=
  List.pairwise_iff_getElem.1 (sorted_sorted xs) k (k + 1) (by omega) hk (by omega)

end Go.Proofs.Ythomhekbikpcfaa
