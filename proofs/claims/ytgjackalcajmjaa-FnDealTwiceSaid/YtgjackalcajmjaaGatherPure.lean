/- Gathering values from rows, in turn: the plain function. -/
namespace Go.Proofs.Ytgjackalcajmjaa

/-- The i-th values of all rows. -/
def col (i : Nat) (rows : List (List Int)) : List Int := rows.filterMap fun r => r[i]?
def gatherTo (M : Nat) (rows : List (List Int)) : List Int := ((List.range M).map fun i => col i rows).flatten
/-- The longest row. -/
def longest (rows : List (List Int)) : Nat := rows.foldr (fun r m => max r.length m) 0
def gather (rows : List (List Int)) : List Int := gatherTo (longest rows) rows

theorem gatherTo_succ (M : Nat) (rows : List (List Int)) : gatherTo (M + 1) rows = gatherTo M rows ++ col M rows := by
  unfold gatherTo; rw [List.range_succ, List.map_append, List.flatten_append]; simp
theorem longest_cons (r : List Int) (rows : List (List Int)) : longest (r :: rows) = max r.length (longest rows) := rfl
theorem le_longest {rows : List (List Int)} {r : List Int} (h : r ∈ rows) : r.length ≤ longest rows := by
  induction rows with
  | nil => cases h
  | cons a rows ih =>
    rw [longest_cons]
    rcases List.mem_cons.1 h with rfl | h
    · omega
    · have := ih h; omega
theorem longest_le {rows : List (List Int)} {M : Nat} (h : ∀ r ∈ rows, r.length ≤ M) : longest rows ≤ M := by
  induction rows with
  | nil => exact Nat.zero_le _
  | cons a rows ih =>
    rw [longest_cons]
    have h1 := h a (by simp)
    have h2 := ih (fun r hr => h r (by simp [hr]))
    omega
theorem col_nil {i : Nat} {rows : List (List Int)} (h : ∀ r ∈ rows, r.length ≤ i) : col i rows = [] := by
  unfold col
  apply List.filterMap_eq_nil_iff.2
  intro r hr
  exact List.getElem?_eq_none (h r hr)
theorem gatherTo_eq {rows : List (List Int)} : ∀ M, longest rows ≤ M → gatherTo M rows = gather rows := by
  intro M
  induction M with
  | zero => intro h; unfold gather; rw [show longest rows = 0 by omega]
  | succ M ih =>
    intro h
    rcases (by omega : longest rows = M + 1 ∨ longest rows ≤ M) with h1 | h1
    · unfold gather; rw [h1]
    · rw [gatherTo_succ, ih h1, col_nil (fun r hr => by have := le_longest hr; omega), List.append_nil]
theorem gather_none {rows : List (List Int)} {i : Nat} (h : col i rows = []) : gatherTo i rows = gather rows := by
  apply gatherTo_eq
  apply longest_le
  intro r hr
  unfold col at h
  have := List.filterMap_eq_nil_iff.1 h r hr
  exact List.getElem?_eq_none_iff.1 this
theorem some_longest {rows : List (List Int)} {i : Nat} (h : col i rows ≠ []) : i < longest rows := by
  rcases Nat.lt_or_ge i (longest rows) with h1 | h1
  · exact h1
  · exact absurd (col_nil (fun r hr => by have := le_longest hr; omega)) h

theorem gather_empty : gather [] = [] := rfl
theorem gather_skip (q : List (List Int)) : gather ([] :: q) = gather q := by
  have h : ∀ i, col i ([] :: q) = col i q := fun i => by unfold col; simp
  have hl : longest ([] :: q) = longest q := by rw [longest_cons]; simp
  unfold gather gatherTo
  rw [hl, List.map_congr_left (fun i _ => h i)]
theorem zip_flat (h s : Nat → List Int) : ∀ M, h 0 ++ ((List.range M).map fun i => s i ++ h (i + 1)).flatten ++ s M = ((List.range (M + 1)).map fun i => h i ++ s i).flatten := by
  intro M
  induction M with
  | zero => simp
  | succ M ih =>
    rw [List.range_succ (n := M + 1), List.map_append, List.flatten_append, ← ih, List.range_succ, List.map_append, List.flatten_append]
    simp
theorem gather_front (x : Int) (xs : List Int) (q : List (List Int)) : gather ((x :: xs) :: q) = x :: gather (q ++ [xs]) := by
  have hM1 : longest ((x :: xs) :: q) ≤ max (xs.length + 1) (longest q) + 1 := by rw [longest_cons, List.length_cons]; omega
  have hM2 : longest (q ++ [xs]) ≤ max (xs.length + 1) (longest q) + 1 := by
    apply longest_le
    intro r hr
    rcases List.mem_append.1 hr with hr | hr
    · have := le_longest hr; omega
    · simp at hr; subst hr; omega
  rw [← gatherTo_eq _ hM1, ← gatherTo_eq _ hM2]
  have hs : xs[max (xs.length + 1) (longest q)]? = none := List.getElem?_eq_none (by omega)
  generalize max (xs.length + 1) (longest q) = M at *
  have e1 : ∀ i, col (i + 1) ((x :: xs) :: q) = (xs[i]?).toList ++ col (i + 1) q := fun i => by
    unfold col
    rw [List.filterMap_cons]
    simp only [List.getElem?_cons_succ]
    cases xs[i]? <;> rfl
  have e0 : col 0 ((x :: xs) :: q) = x :: col 0 q := by unfold col; simp
  have e2 : ∀ i, col i (q ++ [xs]) = col i q ++ (xs[i]?).toList := fun i => by
    unfold col
    rw [List.filterMap_append, List.filterMap_cons]
    cases xs[i]? <;> rfl
  have hz := zip_flat (fun i => col i q) (fun i => (xs[i]?).toList) M
  simp only [hs, Option.toList_none, List.append_nil] at hz
  unfold gatherTo
  rw [show ((List.range (M + 1)).map fun i => col i (q ++ [xs])) = (List.range (M + 1)).map fun i => col i q ++ (xs[i]?).toList from List.map_congr_left (fun i _ => e2 i), ← hz]
  rw [List.range_succ_eq_map, List.map_cons, List.map_map, List.flatten_cons, e0, List.cons_append]
  congr 3
  exact List.map_congr_left (fun i _ => e1 i)
theorem col_len (i : Nat) (rows : List (List Int)) : (col i rows).length ≤ rows.length := List.length_filterMap_le _ _
/-- As many values as there are. -/
theorem gather_len : ∀ n (rows : List (List Int)), rows.length + (rows.map List.length).sum = n → (gather rows).length = (rows.map List.length).sum := by
  intro n
  induction n using Nat.strongRecOn with
  | _ n ih =>
    intro rows hn
    match rows with
    | [] => rfl
    | [] :: q =>
      rw [gather_skip]
      have := ih (q.length + (q.map List.length).sum) (by simp at hn; omega) q rfl
      rw [this]; simp
    | (x :: xs) :: q =>
      rw [gather_front]
      have := ih ((q ++ [xs]).length + ((q ++ [xs]).map List.length).sum) (by simp at hn ⊢; omega) (q ++ [xs]) rfl
      rw [List.length_cons, this]; simp; omega

end Go.Proofs.Ytgjackalcajmjaa
