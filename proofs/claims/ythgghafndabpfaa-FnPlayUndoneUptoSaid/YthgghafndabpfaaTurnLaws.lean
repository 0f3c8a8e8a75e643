/- FnTurnBoth and FnTurnTwice return true: the walks of the laws. -/
import Derived.Test.YthgghafndabpfaaTurnList
import Derived.Test.YthgghafndabpfaaCirclePure
import Derived.Test.YthgghafndabpfaaOrder
namespace Go.Proofs.Ythgghafndabpfaa
open Go.RowKit


theorem farOf_near {d : Int} (h : -5000 ≤ d ∧ d ≤ 5000) : farOf (d + 5000) = d := by
  unfold farOf; omega

theorem ix_add (d e : Int) {n : Nat} (hn : 0 < n) : ix ((ix d n : Nat) + e) n = ix (d + e) n := by
  have h : ((ix d n : Nat) : Int) = d % (n : Int) := (ix_eq d hn).symm
  show ((((ix d n : Nat) : Int) + e) % (n : Int)).toNat = ((d + e) % (n : Int)).toNat
  rw [h, Int.emod_add_emod]
theorem ix_zero (n : Nat) : ix 0 n = 0 := by simp [ix]
theorem rot_zero {α : Type} (xs : List α) : rot xs 0 = xs := by simp [rot]

/-- Two turns are one. -/
theorem turn_turn (xs : List Int) (a b : Int) : turnOf (turnOf xs a) b = rot xs (ix (farOf a + farOf b) xs.length) := by
  rcases Nat.eq_zero_or_pos xs.length with h | h
  · obtain rfl : xs = [] := List.eq_nil_of_length_eq_zero h
    rw [turnOf_nil, turnOf_nil]; simp [rot]
  · have hk := ix_lt (farOf a) h
    have e := rot_next (farOf b) (ix (farOf a) xs.length) (by omega) h
    unfold turnOf
    rw [rot_len, e, ix_add _ _ h]
theorem turn_back (xs : List Int) (a : Int) : turnOf (turnOf xs a) (- farOf a + 5000) = xs := by
  have hb := farOf_bd a
  rw [turn_turn, farOf_near (by omega), show farOf a + - farOf a = 0 by omega, ix_zero, rot_zero]
theorem turn_both (xs : List Int) (j k : Int) (hj : -1000 ≤ j ∧ j ≤ 1000) (hk : -1000 ≤ k ∧ k ≤ 1000) : turnOf (turnOf xs (j + 5000)) (k + 5000) = turnOf xs (j + k + 5000) := by
  rw [turn_turn, farOf_near (by omega), farOf_near (by omega)]
  unfold turnOf
  rw [farOf_near (by omega)]



end Go.Proofs.Ythgghafndabpfaa
