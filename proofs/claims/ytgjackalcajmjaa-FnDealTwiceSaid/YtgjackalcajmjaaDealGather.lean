/- What is dealt is gathered in the same order. -/
import Derived.Test.YtgjackalcajmjaaDealPure
import Derived.Test.YtgjackalcajmjaaGatherPure
namespace Go.Proofs.Ytgjackalcajmjaa

theorem gather_blank (H : Nat) : gather (List.replicate H []) = [] := by
  induction H with
  | zero => rfl
  | succ H ih => rw [List.replicate_succ, gather_skip, ih]
theorem deal_gather (H : Nat) (hH : 0 < H) (xs : List Int) : gather (deal H xs) = xs := by
  induction xs with
  | nil => rw [deal_nil]; exact gather_blank H
  | cons x xs ih =>
    rw [deal_cons H hH, shift, gather_front]
    have hl := deal_len H xs
    have hne : deal H xs ≠ [] := fun e => by rw [e] at hl; simp at hl; omega
    have e : (deal H xs).dropLast ++ [(deal H xs).getD ((deal H xs).length - 1) []] = deal H xs := by
      have h := List.dropLast_concat_getLast hne
      rw [List.getLast_eq_getElem] at h
      rw [List.getD_eq_getElem?_getD, List.getElem?_eq_getElem (by omega)]
      exact h
    rw [e, ih]

/-- Rows of one length, joined: where each value stands. -/
theorem flatten_get {R : Nat} : ∀ (rows : List (List Int)), (∀ r ∈ rows, r.length = R) → ∀ (r i : Nat), i < R → rows.flatten[r * R + i]? = (rows[r]?).bind (fun x => x[i]?) := by
  intro rows
  induction rows with
  | nil => intro _ r i _; simp
  | cons a rows ih =>
    intro h r i hi
    have ha := h a (by simp)
    rw [List.flatten_cons]
    cases r with
    | zero => rw [Nat.zero_mul, Nat.zero_add, List.getElem?_append_left (by omega)]; rfl
    | succ r =>
      rw [List.getElem?_append_right (by rw [ha, Nat.succ_mul]; omega), ha, show (r + 1) * R + i - R = r * R + i by rw [Nat.succ_mul]; omega, ih (fun x hx => h x (by simp [hx])) r i hi]
      rfl
/-- Where each value of a deal is. -/
theorem dealTo_get (H : Nat) (hH : 0 < H) (xs : List Int) : ∀ k, k ≤ xs.length → ∀ r i, r < H → ((dealTo H xs k)[r]?).bind (fun x => x[i]?) = if i * H + r < k then xs[i * H + r]? else none := by
  intro k
  induction k with
  | zero => intro _ r i hr; simp [dealTo, hr]
  | succ k ih =>
    intro hk r i hr
    have hlen := dealTo_len H xs k
    have hmod := Nat.mod_lt k hH
    have hdm := Nat.div_add_mod k H
    have hrow := dealTo_row H hH xs k (k % H) hmod
    rw [if_neg (by omega), Nat.add_zero] at hrow
    have ihr := ih (by omega) r i hr
    have hkey : ∀ j t, t < H → (j * H + t = k ↔ j = k / H ∧ t = k % H) := by
      intro j t ht
      constructor
      · intro e
        have h1 : k / H = j := by rw [← e, Nat.add_comm, Nat.mul_comm, Nat.add_mul_div_left _ _ hH, Nat.div_eq_of_lt ht]; omega
        have h2 : k % H = t := by rw [← e, Nat.add_comm, Nat.mul_comm, Nat.add_mul_mod_self_left, Nat.mod_eq_of_lt ht]
        exact ⟨h1.symm, h2.symm⟩
      · rintro ⟨rfl, rfl⟩; rw [Nat.mul_comm]; exact hdm
    rw [dealTo, List.getElem?_set]
    by_cases hrk : k % H = r
    · subst hrk
      rw [if_pos rfl, if_pos (by omega)]
      rw [List.getElem?_eq_getElem (by omega)] at ihr
      simp only [Option.bind_some] at ihr ⊢
      have hg : (dealTo H xs k).getD (k % H) [] = (dealTo H xs k)[k % H]'(by omega) := by rw [List.getD_eq_getElem?_getD, List.getElem?_eq_getElem (by omega)]; rfl
      rw [hg, List.getElem?_append]
      by_cases hi : i < ((dealTo H xs k)[k % H]'(by omega)).length
      · rw [if_pos hi, ihr]
        have h1 : ¬ i * H + k % H = k := fun e => by have := ((hkey i _ hmod).1 e).1; omega
        by_cases h2 : i * H + k % H < k
        · rw [if_pos h2, if_pos (by omega)]
        · rw [if_neg h2, if_neg (by omega)]
      · rw [if_neg hi, hrow]
        by_cases hik : i = k / H
        · subst hik
          have e : k / H * H + k % H = k := (hkey _ _ hmod).2 ⟨rfl, rfl⟩
          rw [e, if_pos (by omega), Nat.sub_self]
          show some (xs.getD k 0) = xs[k]?
          rw [List.getD_eq_getElem?_getD, List.getElem?_eq_getElem (show k < xs.length by omega)]; rfl
        · have hi2 : k / H < i := by omega
          have h3 : k < i * H + k % H := by
            have h4 : (k / H + 1) * H ≤ i * H := Nat.mul_le_mul_right _ hi2
            rw [Nat.succ_mul, Nat.mul_comm] at h4
            omega
          rw [if_neg (by omega), List.getElem?_eq_none (by simp; omega)]
    · rw [if_neg hrk, ihr]
      have h1 : ¬ i * H + r = k := fun e => hrk ((hkey i r hr).1 e).2.symm
      by_cases h2 : i * H + r < k
      · rw [if_pos h2, if_pos (by omega)]
      · rw [if_neg h2, if_neg (by omega)]
/-- Rows and columns, exchanged. -/
theorem deal_flat_get {H R : Nat} (hH : 0 < H) {xs : List Int} (hl : xs.length = R * H) (r i : Nat) (hr : r < H) (hi : i < R) : (deal H xs).flatten[r * R + i]? = xs[i * H + r]? := by
  have hrows : ∀ x ∈ deal H xs, x.length = R := by
    intro x hx
    obtain ⟨j, hj, rfl⟩ := List.getElem_of_mem hx
    rw [deal_len] at hj
    rw [deal_row H hH xs j hj, hl, Nat.mul_div_cancel _ hH, Nat.mul_mod_left]; simp
  rw [flatten_get _ hrows r i hi]
  unfold deal
  rw [dealTo_get H hH xs _ (Nat.le_refl _) r i hr, if_pos]
  rw [hl]
  have : (i + 1) * H ≤ R * H := Nat.mul_le_mul_right _ hi
  rw [Nat.succ_mul] at this
  omega
theorem deal_flat_len {H : Nat} (hH : 0 < H) (xs : List Int) : (deal H xs).flatten.length = xs.length := by
  rw [List.length_flatten, deal_sum H hH]
theorem deal_twice {H R : Nat} (hH : 0 < H) (hR : 0 < R) (xs : List Int) (hl : xs.length = R * H) : (deal R (deal H xs).flatten).flatten = xs := by
  have hy := deal_flat_len hH xs
  have hl2 : (deal H xs).flatten.length = H * R := by rw [hy, hl, Nat.mul_comm]
  apply List.ext_getElem?
  intro t
  by_cases ht : t < xs.length
  · have hi : t / H < R := by rw [Nat.div_lt_iff_lt_mul hH]; omega
    have hr : t % H < H := Nat.mod_lt _ hH
    have e : t = t / H * H + t % H := by rw [Nat.mul_comm]; exact (Nat.div_add_mod t H).symm
    have h1 := deal_flat_get hR hl2 (t / H) (t % H) hi hr
    have h2 := deal_flat_get hH hl (t % H) (t / H) hr hi
    rw [← e] at h1
    rw [h1, h2, ← e]
  · rw [List.getElem?_eq_none (by rw [deal_flat_len hR, hy]; omega), List.getElem?_eq_none (by omega)]

end Go.Proofs.Ytgjackalcajmjaa
