/- Taking numbers out of a circle: the plain function. -/
import Derived.Test.YthgghafndabpfaaTurnPure
namespace Go.Proofs.Ythgghafndabpfaa

def circ (d : Int) : Nat → List Int → List Int
  | 0, _ => []
  | n + 1, l => (rot l (ix d l.length)).headD 0 :: circ d n (rot l (ix d l.length)).tail
/-- All of a circle: each time so far on, and out. -/
def circle (d : Int) (l : List Int) : List Int := circ d l.length l
theorem circle_nil (d : Int) : circle d [] = [] := rfl
theorem circle_cons {d : Int} {l ys : List Int} {y : Int} (h : rot l (ix d l.length) = y :: ys) : circle d l = y :: circle d ys ∧ l.length = ys.length + 1 := by
  have hl : l.length = ys.length + 1 := by
    have := congrArg List.length h
    rw [rot_len] at this
    simpa using this
  refine ⟨?_, hl⟩
  have e1 : ∀ n, circ d (n + 1) l = y :: circ d n ys := fun n => by
    show (rot l (ix d l.length)).headD 0 :: circ d n (rot l (ix d l.length)).tail = _
    rw [h]; rfl
  unfold circle
  rw [hl]
  exact e1 _
theorem circ_len (d : Int) : ∀ n l, (circ d n l).length = n := by
  intro n
  induction n with
  | zero => intro l; rfl
  | succ n ih => intro l; show (_ :: circ d n _).length = n + 1; rw [List.length_cons, ih]
theorem circle_len (d : Int) (l : List Int) : (circle d l).length = l.length := circ_len _ _ _

theorem rot_append {α : Type} (A B : List α) {k : Nat} (h : k = A.length) : rot (A ++ B) k = B ++ A := by
  subst h
  unfold rot
  rw [List.drop_left, List.take_left]
/-- Two turns. -/
theorem rot_rot {α : Type} (xs : List α) (i k : Nat) (hi : i ≤ xs.length) (hk : k ≤ xs.length) : rot (rot xs i) k = rot xs (if i + k ≤ xs.length then i + k else i + k - xs.length) := by
  obtain ⟨A, B, rfl, rfl⟩ : ∃ A B, xs = A ++ B ∧ i = A.length := ⟨xs.take i, xs.drop i, (List.take_append_drop i xs).symm, by rw [List.length_take]; omega⟩
  rw [rot_append A B rfl]
  rw [List.length_append] at *
  by_cases h : A.length + k ≤ A.length + B.length
  · rw [if_pos h]
    obtain ⟨B1, B2, rfl, rfl⟩ : ∃ B1 B2, B = B1 ++ B2 ∧ k = B1.length := ⟨B.take k, B.drop k, (List.take_append_drop k B).symm, by rw [List.length_take]; omega⟩
    rw [List.append_assoc, rot_append B1 _ rfl, ← List.append_assoc A, rot_append (A ++ B1) B2 (by simp), List.append_assoc]
  · rw [if_neg h]
    obtain ⟨A1, A2, rfl, hk1⟩ : ∃ A1 A2, A = A1 ++ A2 ∧ k = B.length + A1.length := ⟨A.take (k - B.length), A.drop (k - B.length), (List.take_append_drop _ A).symm, by rw [List.length_take]; omega⟩
    subst hk1
    rw [← List.append_assoc B, rot_append (B ++ A1) A2 (by simp), List.append_assoc A1, rot_append A1 _ (by simp only [List.length_append] at *; omega), List.append_assoc]

/-- The next one of a circle from the i-th on. -/
theorem rot_next {xs : List Int} (d : Int) (i : Nat) (hi : i ≤ xs.length) (h0 : 0 < xs.length) : rot (rot xs i) (ix d xs.length) = rot xs (ix ((i : Int) + d) xs.length) := by
  have h1 : ix d xs.length < xs.length := by unfold ix; have := Int.emod_lt_of_pos d (show (0 : Int) < xs.length by omega); have := Int.emod_nonneg d (show (xs.length : Int) ≠ 0 by omega); omega
  rw [rot_rot xs i _ hi (by omega)]
  have e1 : ((i : Int) + d) % (xs.length : Int) = ((i : Int) + (ix d xs.length : Nat)) % (xs.length : Int) := by
    unfold ix
    rw [Int.toNat_of_nonneg (Int.emod_nonneg d (by omega)), Int.add_emod_emod]
  have e2 : ix ((i : Int) + d) xs.length = if i + ix d xs.length < xs.length then i + ix d xs.length else i + ix d xs.length - xs.length := by
    show (((i : Int) + d) % (xs.length : Int)).toNat = _
    rw [e1]
    generalize ix d xs.length = k at *
    by_cases h : i + k < xs.length
    · rw [if_pos h, Int.emod_eq_of_lt (by omega) (by omega)]; omega
    · rw [if_neg h, show (i : Int) + (k : Int) = ((i : Int) + (k : Int) - (xs.length : Int)) + (xs.length : Int) by omega, Int.add_emod_right, Int.emod_eq_of_lt (by omega) (by omega)]; omega
  rw [e2]
  by_cases h : i + ix d xs.length < xs.length
  · rw [if_pos h, if_pos (by omega)]
  · rw [if_neg h]
    by_cases h2 : i + ix d xs.length ≤ xs.length
    · rw [if_pos h2]
      have h3 : i + ix d xs.length = xs.length := by omega
      rw [h3, Nat.sub_self]
      unfold rot
      rw [List.drop_length, List.take_length]
      simp
    · rw [if_neg h2]

/-- One step of the reference: from the i-th on, the j-th comes out. -/
theorem circle_step {xs : List Int} (d : Int) (i : Nat) (hi : i ≤ xs.length) (h0 : 0 < xs.length) (j : Nat) (hj : j = ix ((i : Int) + d) xs.length) (hjl : j < xs.length) :
    circle d (rot xs i) = xs[j] :: circle d (rot (xs.eraseIdx j) j) := by
  subst hj
  have h := rot_next d i hi h0
  generalize ix ((i : Int) + d) xs.length = j at *
  have e : rot xs j = xs[j] :: rot (xs.eraseIdx j) j := by
    unfold rot
    have h1 : (xs.take j).length = j := by rw [List.length_take]; omega
    rw [List.drop_eq_getElem_cons hjl, List.eraseIdx_eq_take_drop_succ, List.drop_append_of_le_length (by omega), List.drop_of_length_le (by omega : (xs.take j).length ≤ j), List.take_append_of_le_length (by omega), List.take_of_length_le (by omega : (xs.take j).length ≤ j)]
    rfl
  rw [e] at h
  refine (circle_cons ?_).1
  rw [rot_len]
  exact h

end Go.Proofs.Ythgghafndabpfaa
