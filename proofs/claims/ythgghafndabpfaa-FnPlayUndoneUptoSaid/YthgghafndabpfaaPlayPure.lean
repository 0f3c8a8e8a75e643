/- Moves in a list of numbers: the plain function. -/
import Derived.Test.YthgghafndabpfaaAt
import Derived.Test.YthgghafndabpfaaSortPure
import Derived.Test.YthgghafndabpfaaMove
namespace Go.Proofs.Ythgghafndabpfaa

/-- One move among n numbers. -/
def playStep (n : Nat) (x : List Int) (m : Mv) : List Int :=
  if 2 ≤ ix m.1 4 ∧ ix m.2.1 n = ix m.2.2 n then x
  else
    let y := x.eraseIdx (x.idxOf ((ix m.2.1 n : Nat) : Int))
    if ix m.1 4 = 0 then ins y 0 (ix m.2.1 n : Nat)
    else if ix m.1 4 = 1 then ins y y.length (ix m.2.1 n : Nat)
    else if ix m.1 4 = 2 then ins y (y.idxOf ((ix m.2.2 n : Nat) : Int) + 1) (ix m.2.1 n : Nat)
    else ins y (y.idxOf ((ix m.2.2 n : Nat) : Int)) (ix m.2.1 n : Nat)
def play (n : Nat) (ms : List Mv) : List Int := if n = 0 then [] else ms.foldl (playStep n) (nums n)
def playOf (a : Int) (ms : List Mv) : List Int := play (ix a 200) ms

/-- The numbers from 0 on, in some order. -/
def Ord (n : Nat) (x : List Int) : Prop := x.Perm (nums n)
theorem mem_nums (n : Nat) (v : Int) : v ∈ nums n ↔ 0 ≤ v ∧ v < n := by
  induction n with
  | zero => simp [nums, marks]
  | succ n ih => rw [nums_succ, List.mem_append, ih]; simp; omega
theorem nums_nodup (n : Nat) : (nums n).Nodup := by
  induction n with
  | zero => simp [nums, marks]
  | succ n ih =>
    rw [nums_succ, List.nodup_append]
    refine ⟨ih, by simp, fun a ha b hb => ?_⟩
    have := (mem_nums n a).1 ha
    simp at hb
    omega
theorem Ord.len {n : Nat} {x : List Int} (h : Ord n x) : x.length = n := by rw [h.length_eq, nums_len]
theorem Ord.nodup {n : Nat} {x : List Int} (h : Ord n x) : x.Nodup := h.nodup_iff.2 (nums_nodup n)
theorem Ord.mem {n : Nat} {x : List Int} (h : Ord n x) (v : Int) : v ∈ x ↔ 0 ≤ v ∧ v < n := by rw [h.mem_iff, mem_nums]
theorem Ord.has {n : Nat} {x : List Int} (h : Ord n x) {j : Nat} (hj : j < n) : (j : Int) ∈ x := (h.mem _).2 (by omega)

theorem ins_perm (y : List Int) (k : Nat) (v : Int) : (ins y k v).Perm (v :: y) := by
  unfold ins
  refine List.perm_middle.trans ?_
  rw [List.take_append_drop]
theorem erase_perm {x : List Int} {v : Int} (h : v ∈ x) : (v :: x.eraseIdx (x.idxOf v)).Perm x := by
  have hl := List.idxOf_lt_length_of_mem h
  have e : x[x.idxOf v] = v := List.getElem_idxOf hl
  have h1 : x = x.take (x.idxOf v) ++ v :: x.drop (x.idxOf v + 1) := by
    conv => lhs; rw [← List.take_append_drop (x.idxOf v) x, List.drop_eq_getElem_cons hl, e]
  rw [List.eraseIdx_eq_take_drop_succ]
  refine List.Perm.trans ?_ (List.Perm.of_eq h1.symm)
  exact List.perm_middle.symm
theorem Ord.step {n : Nat} {x : List Int} (h : Ord n x) (hn : 0 < n) (m : Mv) : Ord n (playStep n x m) := by
  unfold playStep
  have he := h.has (ix_lt m.2.1 hn)
  have hp := erase_perm he
  split
  · exact h
  · split
    · exact ((ins_perm _ _ _).trans hp).trans h
    · split
      · exact ((ins_perm _ _ _).trans hp).trans h
      · split
        · exact ((ins_perm _ _ _).trans hp).trans h
        · exact ((ins_perm _ _ _).trans hp).trans h
theorem Ord.fold {n : Nat} (hn : 0 < n) (ms : List Mv) {x : List Int} (h : Ord n x) : Ord n (ms.foldl (playStep n) x) := by
  induction ms generalizing x with
  | nil => exact h
  | cons m ms ih => exact ih (h.step hn m)
theorem nums_ord (n : Nat) : Ord n (nums n) := List.Perm.refl _
theorem play_ord (n : Nat) (ms : List Mv) : Ord n (play n ms) := by
  unfold play
  split
  · rename_i h; subst h; exact List.Perm.refl _
  · exact (nums_ord n).fold (by omega) ms

end Go.Proofs.Ythgghafndabpfaa
