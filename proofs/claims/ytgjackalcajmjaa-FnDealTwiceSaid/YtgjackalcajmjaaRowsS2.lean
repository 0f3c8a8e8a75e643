/- The walks of the laws' functions on slices of slices of ints, further. -/
import Derived.Test.YtgjackalcajmjaaRowsS
namespace Go.Proofs.Ytgjackalcajmjaa
open Go.RowKit

def sumLen (rows : List (List Int)) : Nat := (rows.map List.length).sum
theorem sumLen_take (rows : List (List Int)) (k : Nat) (hk : k < rows.length) : sumLen (rows.take (k + 1)) = sumLen (rows.take k) + rows[k].length := by
  unfold sumLen; rw [List.take_succ_eq_append_getElem hk, List.map_append, List.sum_append]; simp
theorem sumLen_take_le (rows : List (List Int)) (k : Nat) : sumLen (rows.take k) ≤ sumLen rows := by
  unfold sumLen
  conv => rhs; rw [← List.take_append_drop k rows, List.map_append, List.sum_append]
  omega




/-- Rows that are marked one behind the other. -/
def markRows : Int → List (List Int) → List (List Int)
  | _, [] => []
  | k, r :: rs => marks k r.length :: markRows (k + r.length) rs
theorem markRows_len (k : Int) (rows : List (List Int)) : (markRows k rows).length = rows.length := by
  induction rows generalizing k with
  | nil => rfl
  | cons r rs ih => simp [markRows, ih]
theorem markRows_append (k : Int) (a b : List (List Int)) : markRows k (a ++ b) = markRows k a ++ markRows (k + sumLen a) b := by
  induction a generalizing k with
  | nil => simp [markRows, sumLen]
  | cons r rs ih => simp [markRows, ih, sumLen, Int.add_assoc]
theorem sumLen_markRows (k : Int) (rows : List (List Int)) : sumLen (markRows k rows) = sumLen rows := by
  induction rows generalizing k with
  | nil => rfl
  | cons r rs ih =>
    have := ih (k + r.length)
    unfold sumLen at *
    simp only [markRows, List.map_cons, List.sum_cons, marks_len, this]
theorem markRows_get (k : Int) (rows : List (List Int)) (j : Nat) (hj : j < rows.length) : (markRows k rows)[j]'(by rw [markRows_len]; exact hj) = marks (k + sumLen (rows.take j)) rows[j].length := by
  have h : markRows k (rows.take j ++ rows.drop j) = markRows k (rows.take j) ++ markRows (k + sumLen (rows.take j)) (rows.drop j) := markRows_append _ _ _
  rw [List.take_append_drop, List.drop_eq_getElem_cons hj] at h
  have hl : (markRows k (rows.take j)).length = j := by rw [markRows_len, List.length_take]; omega
  have h2 := congrArg (fun l => l[j]?) h
  simp only [markRows] at h2
  rw [List.getElem?_append_right (by omega), hl, Nat.sub_self, List.getElem?_cons_zero, List.getElem?_eq_getElem (by rw [markRows_len]; exact hj)] at h2
  simpa using h2



end Go.Proofs.Ytgjackalcajmjaa
