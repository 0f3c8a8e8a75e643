/- Taking elements out behind the first one: the plain function. -/
import Derived.Test.YtebkmegkdcnfaaaTurn
namespace Go.Proofs.Ytebkmegkdcnfaaa
open Go.RowKit

/-- What is left, and what is taken. -/
def spLeft (y : List Int) (k : Nat) : List Int := y.take 1 ++ y.drop (1 + k)
def spTaken (y : List Int) (k : Nat) : List Int := (y.drop 1).take k
def leftOf (xs : List Int) (i k : Int) : List Int := spLeft (turnOf xs i) (ix k xs.length)
def takenOf (xs : List Int) (i k : Int) : List Int := spTaken (turnOf xs i) (ix k xs.length)
theorem leftOf_nil (i k : Int) : leftOf [] i k = [] := by simp [leftOf, spLeft, turnOf_nil]
theorem takenOf_nil (i k : Int) : takenOf [] i k = [] := by simp [takenOf, spTaken, turnOf_nil]
theorem leftOf_le (xs : List Int) (i k : Int) : (leftOf xs i k).length ≤ xs.length := by
  have h := turnOf_len xs i
  unfold leftOf spLeft
  rw [List.length_append, List.length_take, List.length_drop, h]
  omega
theorem takenOf_le (xs : List Int) (i k : Int) : (takenOf xs i k).length ≤ xs.length := by
  have h := turnOf_len xs i
  unfold takenOf spTaken
  rw [List.length_take, List.length_drop, h]
  omega

/-- A row with elements does not lie in an empty block. -/
theorem own_ne_empty {w : World} {base : Nat} {e t : TypeId} {fz : Nat × Nat} {n g : Nat} {v : Value} {cs : List Value} (h : w.ownsRow base e 1 v n cs) (hn : 0 < n) (he : w.heap[g]? = some (.cells #[] t fz)) : v.ownBlock ≠ some g := by
  intro hg
  rcases h.2 with ⟨rfl, _⟩ | ⟨g', cap, cur, rfl, _, hh, h3, _, h5, _⟩
  · simp [Value.ownBlock] at hg
  · simp [Value.ownBlock] at hg
    subst hg
    rw [he] at hh
    injection hh with hh
    injection hh with hh _
    subst hh
    simp at h5
    omega
theorem Ints.mid {w : World} {A : Option Addr} {n c : Nat} {xs : List Int} (h : Ints w (.slice A n c) xs) (k : Nat) (hk : 1 + k ≤ n) :
    Sl w 1 (.slice (if c = 1 then A else A.map (·.add 1)) k (c - 1)) k (((xs.drop 1).take k).map (Value.int .i64)) := by
  have h1 := h.drop 1 (by omega)
  have hl : xs.length = n := by
    obtain ⟨_, A', c', e, _⟩ := h
    injection e with _ e _
    exact e.symm
  have h2 : Ints w (.slice (if c = 1 then A else A.map (·.add 1)) (n - 1) (c - 1)) (xs.drop 1) := by
    unfold Ints
    rw [List.length_drop, hl]
    exact h1
  exact h2.take k (by omega)

/-- Two new slices of ints, apart from each other. -/
def New2 (w : World) (xs ys : List Int) (e : Ending) (w' : World) : Prop := ∃ v u, e = .returned (.tuple #[v, u]) ∧ OwnI w' w.heap.size v xs ∧ OwnI w' w.heap.size u ys ∧ (∀ g, v.ownBlock = some g → ¬ u.ownBlock = some g) ∧ Bl w w'

end Go.Proofs.Ytebkmegkdcnfaaa
