/- The walks of the small functions: remainders, the numbers from 0 on. -/
import Derived.Test.YtgjackalcajmjaaMem
import Derived.Test.YtgjackalcajmjaaTurnPure
namespace Go.Proofs.Ytgjackalcajmjaa
open Go.RowKit

theorem at_eq (i n : Int) (h : 0 < n) : (i.tmod n + n).tmod n = i % n := by
  have h1 : -n < i.tmod n := by
    have := Int.lt_tmod_of_pos i h; omega
  have h3 : 0 ≤ i.tmod n + n := by omega
  rw [Int.tmod_eq_emod_of_nonneg h3, Int.add_emod_right]
  have h4 := Int.tmod_eq_emod (a := i) (b := n)
  rw [h4]
  split
  · simp
  · have : ((n.natAbs : Nat) : Int) = n := by omega
    rw [this]
    simp

theorem tmod_bounds (i n : Int) (h : 0 < n) : -n < i.tmod n ∧ i.tmod n < n := ⟨by have := Int.lt_tmod_of_pos i h; omega, Int.tmod_lt_of_pos i h⟩

theorem at_eq' (i n : Int) (h : 0 < n) : (i.tmod n + n) % n = i % n := by
  have hb := tmod_bounds i n h
  have h1 := at_eq i n h
  rwa [Int.tmod_eq_emod_of_nonneg (a := i.tmod n + n) (by omega)] at h1

set_option maxHeartbeats 400000 in
theorem at_any (i n : Int) (w : World) (h : 0 < n) (h2 : n ≤ 4611686018427387904) : Calls Try.prog 56 #[.int .i64 i, .int .i64 n] w fun e w' => e = .returned (.int .i64 (i % n)) ∧ w = w' := by
  have hb := tmod_bounds i n h
  have hb1 := hb.1
  have hb2 := hb.2
  have H := Lib.hid (at_eq' i n h)
  clear hb
  go_enter Try.func56, Try.ntmps56
  go_wp2
  go_ret
  exact ⟨by rw [← H.out]; rfl, rfl⟩

set_option maxHeartbeats 400000 in
theorem At_any (i n : Int) (w : World) (h : 0 < n) (h2 : n ≤ 4611686018427387904) : Calls Try.prog 25 #[.int .i64 i, .int .i64 n] w fun e w' => e = .returned (.int .i64 (i % n)) ∧ w = w' := by
  have hb := tmod_bounds i n h
  have hb1 := hb.1
  have hb2 := hb.2
  have H := Lib.hid (at_eq' i n h)
  clear hb
  go_enter Try.func25, Try.ntmps25
  go_wp2
  go_ret
  exact ⟨by rw [← H.out]; rfl, rfl⟩

theorem ix_lt (a : Int) {n : Nat} (h : 0 < n) : ix a n < n := by
  have h1 := Int.emod_lt_of_pos a (b := (n : Int)) (by omega)
  unfold ix; omega
theorem ix_eq (a : Int) {n : Nat} (h : 0 < n) : a % (n : Int) = (ix a n : Int) := by
  have h1 := Int.emod_nonneg a (b := (n : Int)) (by omega)
  unfold ix; omega

theorem at_ix (a : Int) (n : Nat) (w : World) (h : 0 < n) (h2 : n ≤ 4611686018427387904) : Calls Try.prog 56 #[.int .i64 a, .int .i64 n] w fun e w' => e = .returned (.int .i64 (ix a n)) ∧ w' = w :=
  (at_any a n w (by omega) (by omega)).mono fun _ _ h' => ⟨by rw [← ix_eq a h]; exact h'.1, h'.2.symm⟩
theorem At_ix (a : Int) (n : Nat) (w : World) (h : 0 < n) (h2 : n ≤ 4611686018427387904) : Calls Try.prog 25 #[.int .i64 a, .int .i64 n] w fun e w' => e = .returned (.int .i64 (ix a n)) ∧ w' = w :=
  (At_any a n w (by omega) (by omega)).mono fun _ _ h' => ⟨by rw [← ix_eq a h]; exact h'.1, h'.2.symm⟩

/-- The numbers from 0 on. -/
def nums (n : Nat) : List Int := marks 0 n
theorem nums_len (n : Nat) : (nums n).length = n := marks_len _ _
theorem nums_succ (n : Nat) : nums (n + 1) = nums n ++ [(n : Int)] := by simp [nums, marks_succ]


/-- How far to go. -/
def farOf (a : Int) : Int := a % 10001 - 5000
theorem farOf_bd (a : Int) : -5000 ≤ farOf a ∧ farOf a ≤ 5000 := by unfold farOf; omega
set_option maxHeartbeats 400000 in
theorem far_any (a : Int) (w : World) : Calls Try.prog 55 #[.int .i64 a] w fun e w' => e = .returned (.int .i64 (farOf a)) ∧ w = w' := by
  have h0 := Int.emod_nonneg a (b := 10001) (by omega)
  have h1 := Int.emod_lt_of_pos a (b := 10001) (by omega)
  go_enter Try.func55, Try.ntmps55
  go_wp2_with fail
  refine (at_any a 10001 _ (by omega) (by omega)).mono ?_
  rintro e w1 ⟨rfl, rfl⟩
  go_wp2
  go_ret
  exact ⟨rfl, rfl⟩


end Go.Proofs.Ytgjackalcajmjaa
