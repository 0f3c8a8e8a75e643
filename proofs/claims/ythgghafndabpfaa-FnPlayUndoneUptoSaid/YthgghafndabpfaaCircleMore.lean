/- Taking numbers out of a circle: plain lemmas on orders, ends and the next circle. -/
import Derived.Test.YthgghafndabpfaaCircle
namespace Go.Proofs.Ythgghafndabpfaa

theorem rot_perm {α : Type} (xs : List α) (k : Nat) : (rot xs k).Perm xs := by
  unfold rot
  have h := (List.perm_append_comm (l₁ := xs.drop k) (l₂ := xs.take k))
  rwa [List.take_append_drop] at h
/-- A circle goes on from some element. -/
theorem circle_some (d : Int) (l : List Int) (h : 0 < l.length) : ∃ y ys, rot l (ix d l.length) = y :: ys ∧ circle d l = y :: circle d ys ∧ l.length = ys.length + 1 := by
  rcases e : rot l (ix d l.length) with _ | ⟨y, ys⟩
  · have := congrArg List.length e
    rw [rot_len] at this
    simp only [List.length_nil] at this
    omega
  · exact ⟨y, ys, rfl, (circle_cons e).1, (circle_cons e).2⟩
theorem circle_perm (d : Int) : ∀ n (l : List Int), l.length = n → (circle d l).Perm l := by
  intro n
  induction n with
  | zero => intro l h; obtain rfl := List.eq_nil_of_length_eq_zero h; exact List.Perm.refl _
  | succ n ih =>
    intro l h
    obtain ⟨y, ys, e1, e2, e3⟩ := circle_some d l (by omega)
    rw [e2]
    refine ((ih ys (by omega)).cons y).trans ?_
    rw [← e1]
    exact rot_perm _ _
theorem circle_map (d : Int) (f : Int → Int) : ∀ n (l : List Int), l.length = n → circle d (l.map f) = (circle d l).map f := by
  intro n
  induction n with
  | zero => intro l h; obtain rfl := List.eq_nil_of_length_eq_zero h; rfl
  | succ n ih =>
    intro l h
    obtain ⟨y, ys, e1, e2, e3⟩ := circle_some d l (by omega)
    have e4 : rot (l.map f) (ix d (l.map f).length) = f y :: ys.map f := by
      rw [List.length_map, ← rot_map, e1]; rfl
    rw [(circle_cons e4).1, e2, ih ys (by omega)]; rfl
theorem circle_zero : ∀ n (l : List Int), l.length = n → circle 0 l = l := by
  intro n
  induction n with
  | zero => intro l h; obtain rfl := List.eq_nil_of_length_eq_zero h; rfl
  | succ n ih =>
    intro l h
    obtain ⟨y, ys, rfl⟩ : ∃ y ys, l = y :: ys := by cases l with
      | nil => simp at h
      | cons y ys => exact ⟨y, ys, rfl⟩
    have e4 : rot (y :: ys) (ix 0 (y :: ys).length) = y :: ys := by simp [ix, rot]
    rw [(circle_cons e4).1, ih ys (by simpa using h)]
theorem circle_back : ∀ n (l : List Int), l.length = n → circle (-1) l = l.reverse := by
  intro n
  induction n with
  | zero => intro l h; obtain rfl := List.eq_nil_of_length_eq_zero h; rfl
  | succ n ih =>
    intro l h
    have hne : l ≠ [] := by intro e; subst e; simp at h
    have e0 : l = l.dropLast ++ [l.getLast hne] := (List.dropLast_concat_getLast hne).symm
    generalize l.dropLast = A at e0
    generalize l.getLast hne = y at e0
    subst e0
    have hA : A.length = n := by simpa using h
    have e3 : ix (-1) (A ++ [y]).length = A.length := by
      have hl : (A ++ [y]).length = A.length + 1 := by simp
      rw [hl]
      unfold ix
      rw [show (-1 : Int) % ((A.length + 1 : Nat) : Int) = ((-1) + ((A.length + 1 : Nat) : Int)) % ((A.length + 1 : Nat) : Int) by rw [Int.add_emod_right], Int.emod_eq_of_lt (by omega) (by omega)]
      omega
    have e4 : rot (A ++ [y]) (ix (-1) (A ++ [y]).length) = y :: A := by rw [e3, rot_append A [y] rfl]; rfl
    rw [(circle_cons e4).1, ih A hA, List.reverse_append]; rfl

theorem nums_map (n : Nat) : nums n = (List.range n).map (fun j : Nat => (j : Int)) := by
  induction n with
  | zero => rfl
  | succ n ih => rw [List.range_succ, List.map_append, ← ih, nums_succ]; rfl
theorem nums_get {n j : Nat} (h : j < n) : (nums n)[j]'(by rw [nums_len]; exact h) = (j : Int) := by
  have : (nums n)[j]? = some (j : Int) := by rw [nums_map, List.getElem?_map, List.getElem?_range h]; rfl
  rw [List.getElem?_eq_getElem (by rw [nums_len]; exact h)] at this
  exact Option.some.inj this
theorem rot_nums (n f : Nat) (hf : f < n) : rot (nums n) f = (f : Int) :: (nums (n - 1)).map (fun v => ((f : Int) + 1 + v) % (n : Int)) := by
  apply List.ext_getElem
  · rw [rot_len, nums_len, List.length_cons, List.length_map, nums_len]; omega
  · intro i h1 h2
    rw [rot_len, nums_len] at h1
    have hlen : (nums n).length = n := nums_len n
    have hdl : ((nums n).drop f).length = n - f := by rw [List.length_drop, hlen]
    have hg : (rot (nums n) f)[i] = ((nums n).drop f ++ (nums n).take f)[i]'(by rw [List.length_append, List.length_drop, List.length_take, hlen]; omega) := rfl
    rw [hg]
    cases i with
    | zero =>
      rw [List.getElem_append_left (by omega), List.getElem_drop, nums_get (by omega)]
      rfl
    | succ i =>
      rw [List.getElem_cons_succ, List.getElem_map, nums_get (by omega)]
      by_cases h : i + 1 < n - f
      · rw [List.getElem_append_left (by omega), List.getElem_drop, nums_get (by omega), Int.emod_eq_of_lt (by omega) (by omega)]
        omega
      · rw [List.getElem_append_right (by omega), List.getElem_take, nums_get (by omega), hdl]
        rw [show (f : Int) + 1 + (i : Int) = ((f : Int) + 1 + (i : Int) - (n : Int)) + (n : Int) by omega, Int.add_emod_right, Int.emod_eq_of_lt (by omega) (by omega)]
        omega
theorem circle_recurs (d : Int) (n : Nat) (hn : 0 < n) : circle d (nums n) = (ix d n : Int) :: (circle d (nums (n - 1))).map (fun v => ((ix d n : Int) + 1 + v) % (n : Int)) := by
  have hf := ix_lt d hn
  have e := rot_nums n (ix d n) hf
  rw [show rot (nums n) (ix d n) = rot (nums n) (ix d (nums n).length) by rw [nums_len]] at e
  rw [(circle_cons e).1, circle_map d _ _ _ rfl]
theorem mem_circle (d : Int) (n : Nat) (v : Int) (h : v ∈ circle d (nums n)) : 0 ≤ v ∧ v < n := by
  have := (circle_perm d _ _ rfl).mem_iff.1 h
  rw [nums_map, List.mem_map] at this
  obtain ⟨j, hj, rfl⟩ := this
  rw [List.mem_range] at hj
  omega
theorem count_nums (n k : Nat) (h : k < n) : (nums n).count (k : Int) = 1 := by
  induction n with
  | zero => omega
  | succ n ih =>
    rw [nums_succ, List.count_append, List.count_singleton]
    by_cases e : k = n
    · subst e
      have : (nums k).count (k : Int) = 0 := by
        apply List.count_eq_zero.2
        intro hm
        rw [nums_map, List.mem_map] at hm
        obtain ⟨j, hj, e⟩ := hm
        rw [List.mem_range] at hj
        omega
      rw [this]; simp
    · rw [ih (by omega), if_neg (by simp; omega)]
theorem perm_count {n : Nat} {xs : List Int} (h : xs.Perm (nums n)) : ∀ k : Nat, k < xs.length → xs.count (k : Int) = 1 := by
  intro k hk
  rw [h.count_eq]
  rw [h.length_eq, nums_len] at hk
  exact count_nums n k hk
theorem circleOf_count (n k : Int) : (circleOf n k).length = ix n 200 ∧ ∀ j : Nat, j < (circleOf n k).length → (circleOf n k).count (j : Int) = 1 := by
  have h : (circleOf n k).Perm (nums (ix n 200)) := circle_perm _ _ _ rfl
  exact ⟨by rw [h.length_eq, nums_len], perm_count h⟩

end Go.Proofs.Ythgghafndabpfaa
