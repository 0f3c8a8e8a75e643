/- Insertion from the back on: the plain function of both sorts. -/
namespace Go.Proofs.Ythgghafndabpfaa

/-- A list with a number at an index. -/
def ins (xs : List Int) (k : Nat) (x : Int) : List Int := xs.take k ++ x :: xs.drop k
theorem ins_len (xs : List Int) (k : Nat) (x : Int) (h : k ≤ xs.length) : (ins xs k x).length = xs.length + 1 := by simp [ins]; omega

/-- Where a value goes: looked for from the back. -/
def posB (l : List Int) (v : Int) : Nat → Nat
  | 0 => 0
  | i + 1 => if v < l.getD i 0 then posB l v i else i + 1
theorem posB_le (l : List Int) (v : Int) (i : Nat) : posB l v i ≤ i := by
  induction i with
  | zero => exact Nat.le_refl _
  | succ i ih => unfold posB; split <;> omega
theorem posB_go {l : List Int} {v : Int} {i : Nat} (hi : i < l.length) (h : v < l[i]) : posB l v (i + 1) = posB l v i := by
  rw [posB, if_pos (by rw [List.getD_eq_getElem?_getD, List.getElem?_eq_getElem hi]; exact h)]
theorem posB_stop {l : List Int} {v : Int} {i : Nat} (hi : i < l.length) (h : ¬ v < l[i]) : posB l v (i + 1) = i + 1 := by
  rw [posB, if_neg (by rw [List.getD_eq_getElem?_getD, List.getElem?_eq_getElem hi]; exact h)]

def insS (l : List Int) (v : Int) : List Int := ins l (posB l v l.length) v
def sorted (xs : List Int) : List Int := xs.foldl insS []
theorem insS_len (l : List Int) (v : Int) : (insS l v).length = l.length + 1 := ins_len _ _ _ (posB_le _ _ _)
theorem foldl_insS_len (xs l : List Int) : (xs.foldl insS l).length = l.length + xs.length := by
  induction xs generalizing l with
  | nil => simp
  | cons x xs ih => rw [List.foldl_cons, ih, insS_len]; simp; omega
theorem sorted_len (xs : List Int) : (sorted xs).length = xs.length := by unfold sorted; rw [foldl_insS_len]; simp
theorem sorted_take (xs : List Int) (k : Nat) (hk : k < xs.length) : sorted (xs.take (k + 1)) = insS (sorted (xs.take k)) xs[k] := by
  unfold sorted
  rw [List.take_succ_eq_append_getElem hk, List.foldl_append]
  rfl

end Go.Proofs.Ythgghafndabpfaa
