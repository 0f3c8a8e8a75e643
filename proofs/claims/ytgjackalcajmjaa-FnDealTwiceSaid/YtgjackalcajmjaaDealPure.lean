/- Dealing values to hands: the plain function. -/
import Derived.Test.YtgjackalcajmjaaTurnPure
namespace Go.Proofs.Ytgjackalcajmjaa

/-- The hands when k values have been dealt. -/
def dealTo (H : Nat) (xs : List Int) : Nat → List (List Int)
  | 0 => List.replicate H []
  | k + 1 => (dealTo H xs k).set (k % H) ((dealTo H xs k).getD (k % H) [] ++ [xs.getD k 0])
def deal (H : Nat) (xs : List Int) : List (List Int) := dealTo H xs xs.length
theorem dealTo_len (H : Nat) (xs : List Int) (k : Nat) : (dealTo H xs k).length = H := by
  induction k with
  | zero => simp [dealTo]
  | succ k ih => simp [dealTo, ih]
theorem deal_len (H : Nat) (xs : List Int) : (deal H xs).length = H := dealTo_len _ _ _

theorem sum_set (l : List (List Int)) (h : Nat) (hh : h < l.length) (r : List Int) : ((l.set h r).map List.length).sum + l[h].length = (l.map List.length).sum + r.length := by
  induction l generalizing h with
  | nil => simp at hh
  | cons a l ih =>
    cases h with
    | zero => simp; omega
    | succ h =>
      have := ih h (by simpa using hh)
      simp at this ⊢
      omega
theorem dealTo_sum (H : Nat) (hH : 0 < H) (xs : List Int) (k : Nat) : ((dealTo H xs k).map List.length).sum = k := by
  induction k with
  | zero => simp [dealTo]
  | succ k ih =>
    have hl : k % H < (dealTo H xs k).length := by rw [dealTo_len]; exact Nat.mod_lt _ hH
    have := sum_set (dealTo H xs k) (k % H) hl ((dealTo H xs k).getD (k % H) [] ++ [xs.getD k 0])
    unfold dealTo
    rw [ih] at this
    rw [List.getD_eq_getElem?_getD, List.getElem?_eq_getElem hl] at this ⊢
    simp at this ⊢
    omega
/-- How long each hand is. -/
theorem dealTo_row (H : Nat) (hH : 0 < H) (xs : List Int) (k : Nat) : ∀ r, (hr : r < H) → ((dealTo H xs k)[r]'(by rw [dealTo_len]; exact hr)).length = k / H + if r < k % H then 1 else 0 := by
  induction k with
  | zero =>
    intro r hr
    simp [dealTo]
  | succ k ih =>
    intro r hr
    have hlt := Nat.mod_lt k hH
    have hl : k % H < (dealTo H xs k).length := by rw [dealTo_len]; exact hlt
    unfold dealTo
    rw [List.getElem_set]
    have hdm := Nat.div_add_mod k H
    have hstep : (k + 1) / H = k / H + (if k % H + 1 = H then 1 else 0) ∧ (k + 1) % H = if k % H + 1 = H then 0 else k % H + 1 := by
      by_cases h : k % H + 1 = H
      · rw [if_pos h, if_pos h]
        have e : k + 1 = H * (k / H + 1) := by rw [Nat.mul_add, Nat.mul_one]; omega
        rw [e]
        exact ⟨Nat.mul_div_cancel_left _ hH, Nat.mul_mod_right _ _⟩
      · rw [if_neg h, if_neg h]
        have e : k + 1 = (k % H + 1) + H * (k / H) := by omega
        rw [e, Nat.add_mul_div_left _ _ hH, Nat.add_mul_mod_self_left, Nat.div_eq_of_lt (by omega), Nat.mod_eq_of_lt (by omega)]
        omega
    rw [hstep.1, hstep.2]
    by_cases hrk : k % H = r
    · rw [if_pos hrk, List.getD_eq_getElem?_getD, List.getElem?_eq_getElem hl]
      have := ih (k % H) hlt
      simp only [Option.getD_some, List.length_append, List.length_cons, List.length_nil]
      rw [this, if_neg (by omega)]
      by_cases h : k % H + 1 = H
      · rw [if_pos h, if_pos h, if_neg (by omega)]
      · rw [if_neg h, if_neg h, if_pos (by omega)]
    · rw [if_neg hrk, ih r hr]
      by_cases h : k % H + 1 = H
      · rw [if_pos h, if_pos h, if_pos (by omega), if_neg (by omega)]
      · rw [if_neg h, if_neg h]
        by_cases h2 : r < k % H
        · rw [if_pos h2, if_pos (by omega)]
        · rw [if_neg h2, if_neg (by omega)]
theorem deal_row (H : Nat) (hH : 0 < H) (xs : List Int) (r : Nat) (hr : r < H) : ((deal H xs)[r]'(by rw [deal_len]; exact hr)).length = xs.length / H + if r < xs.length % H then 1 else 0 := dealTo_row H hH xs _ r hr
theorem deal_sum (H : Nat) (hH : 0 < H) (xs : List Int) : ((deal H xs).map List.length).sum = xs.length := dealTo_sum H hH xs _

/-- One value ahead: it goes to the first hand, and all the others one hand on. -/
def shift (x : Int) (R : List (List Int)) : List (List Int) := (x :: R.getD (R.length - 1) []) :: R.dropLast
theorem shift_len (x : Int) (R : List (List Int)) (h : 0 < R.length) : (shift x R).length = R.length := by simp [shift]; omega
theorem shift_get (x : Int) (R : List (List Int)) (r : Nat) (hr : r + 1 < R.length) : (shift x R)[r + 1]? = R[r]? := by
  unfold shift
  rw [List.getElem?_cons_succ, List.getElem?_dropLast, if_pos (by omega)]
theorem shift_zero (x : Int) (R : List (List Int)) : (shift x R)[0]? = some (x :: R.getD (R.length - 1) []) := rfl
theorem dealTo_cons (H : Nat) (hH : 0 < H) (x : Int) (xs : List Int) : ∀ k, dealTo H (x :: xs) (k + 1) = shift x (dealTo H xs k) := by
  intro k
  induction k with
  | zero =>
    obtain ⟨H', rfl⟩ : ∃ H', H = H' + 1 := ⟨H - 1, by omega⟩
    have e : (List.replicate (H' + 1) ([] : List Int)).getD ((List.replicate (H' + 1) ([] : List Int)).length - 1) [] = [] := by
      rw [List.getD_eq_getElem?_getD, List.length_replicate, List.getElem?_replicate]
      split <;> rfl
    simp only [dealTo, shift]
    rw [e, List.dropLast_replicate]
    simp [List.replicate_succ]
  | succ k ih =>
    have hlen := dealTo_len H xs k
    have hmod := Nat.mod_lt k hH
    rw [dealTo, ih]
    generalize hR : dealTo H xs k = R at *
    have hR' : dealTo H xs (k + 1) = R.set (k % H) (R.getD (k % H) [] ++ [xs.getD k 0]) := by rw [dealTo, hR]
    rw [hR']
    have hx : (x :: xs).getD (k + 1) 0 = xs.getD k 0 := by simp [List.getD_eq_getElem?_getD]
    rw [hx]
    generalize xs.getD k 0 = v
    apply List.ext_getElem?
    intro i
    by_cases hi : i < H
    · rw [List.getElem?_set]
      have hsl : (shift x R).length = H := by rw [shift_len x R (by omega), hlen]
      by_cases hk : k % H + 1 = H
      · -- the last hand: the first one, seen with the value ahead
        have e : (k + 1) % H = 0 := by
          have hdm := Nat.div_add_mod k H
          have e : k + 1 = H * (k / H + 1) := by rw [Nat.mul_add, Nat.mul_one]; omega
          rw [e]; exact Nat.mul_mod_right _ _
        rw [e]
        have ek : k % H = R.length - 1 := by omega
        rw [ek]
        cases i with
        | zero =>
          rw [if_pos rfl, if_pos (by omega), shift_zero]
          have : (shift x R).getD 0 [] = x :: R.getD (R.length - 1) [] := rfl
          rw [this, List.length_set, List.getD_eq_getElem?_getD (l := R.set _ _), List.getElem?_set, if_pos rfl, if_pos (by omega)]
          rfl
        | succ i =>
          rw [if_neg (by omega), shift_get x R i (by omega), shift_get x _ i (by rw [List.length_set]; omega), List.getElem?_set, if_neg (by omega)]
      · have e : (k + 1) % H = k % H + 1 := by
          have hdm := Nat.div_add_mod k H
          have e : k + 1 = (k % H + 1) + H * (k / H) := by omega
          rw [e, Nat.add_mul_mod_self_left, Nat.mod_eq_of_lt (by omega)]
        rw [e]
        have hg : (shift x R).getD (k % H + 1) [] = R.getD (k % H) [] := by
          rw [List.getD_eq_getElem?_getD, List.getD_eq_getElem?_getD, shift_get x R _ (by omega)]
        rw [hg]
        cases i with
        | zero =>
          rw [if_neg (by omega), shift_zero, shift_zero, List.length_set]
          congr 2
          rw [List.getD_eq_getElem?_getD, List.getD_eq_getElem?_getD, List.getElem?_set, if_neg (by omega)]
        | succ i =>
          rw [shift_get x R i (by omega), shift_get x _ i (by rw [List.length_set]; omega), List.getElem?_set]
          by_cases h2 : k % H = i
          · rw [if_pos (by omega), if_pos (by omega), if_pos h2, if_pos (by omega)]
          · rw [if_neg (by omega), if_neg h2]
    · rw [List.getElem?_eq_none (by rw [List.length_set, shift_len x R (by omega)]; omega), List.getElem?_eq_none (by rw [shift_len x _ (by rw [List.length_set]; omega), List.length_set]; omega)]
theorem deal_cons (H : Nat) (hH : 0 < H) (x : Int) (xs : List Int) : deal H (x :: xs) = shift x (deal H xs) := dealTo_cons H hH x xs xs.length
theorem deal_nil (H : Nat) : deal H [] = List.replicate H [] := rfl

end Go.Proofs.Ytgjackalcajmjaa
