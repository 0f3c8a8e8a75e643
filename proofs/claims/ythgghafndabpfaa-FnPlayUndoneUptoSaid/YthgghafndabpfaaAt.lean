/- The walks of the small functions: remainders, the numbers from 0 on. -/
import Derived.Test.YthgghafndabpfaaMem
import Derived.Test.YthgghafndabpfaaTurnPure
namespace Go.Proofs.Ythgghafndabpfaa
open Go.RowKit

theorem at_eq (i n : Int) (h : 0 < n) : (i.tmod n + n).tmod n = i % n := by
  have h1 : -n < i.tmod n := by
    have := Int.lt_tmod_of_pos i h; omega
  have h3 : 0 ≤ i.tmod n + n := by omega
  rw [Int.tmod_eq_emod_of_nonneg h3, Int.add_emod_right]
  have h4 := Int.tmod_eq_emod (a := i) (b := n)
  rw [h4]
  split
  · simp
  · have : ((n.natAbs : Nat) : Int) = n := by omega
    rw [this]
    simp

theorem tmod_bounds (i n : Int) (h : 0 < n) : -n < i.tmod n ∧ i.tmod n < n := ⟨by have := Int.lt_tmod_of_pos i h; omega, Int.tmod_lt_of_pos i h⟩

theorem at_eq' (i n : Int) (h : 0 < n) : (i.tmod n + n) % n = i % n := by
  have hb := tmod_bounds i n h
  have h1 := at_eq i n h
  rwa [Int.tmod_eq_emod_of_nonneg (a := i.tmod n + n) (by omega)] at h1

set_option maxRecDepth 100000 in
set_option maxHeartbeats 400000 in
theorem at_any (i n : Int) (w : World) (h : 0 < n) (h2 : n ≤ 4611686018427387904) : Calls Try.prog 15 #[.int .i64 i, .int .i64 n] w fun e w' => e = .returned (.int .i64 (i % n)) ∧ w = w' := by
  have hb := tmod_bounds i n h
  have hb1 := hb.1
  have hb2 := hb.2
  have H := Lib.hid (at_eq' i n h)
  clear hb
  go_enter Try.func15, Try.ntmps15
  go_wp2
  go_ret
  exact ⟨by rw [← H.out]; rfl, rfl⟩

set_option maxRecDepth 100000 in
set_option maxHeartbeats 400000 in
theorem At_any (i n : Int) (w : World) (h : 0 < n) (h2 : n ≤ 4611686018427387904) : Calls Try.prog 8 #[.int .i64 i, .int .i64 n] w fun e w' => e = .returned (.int .i64 (i % n)) ∧ w = w' := by
  have hb := tmod_bounds i n h
  have hb1 := hb.1
  have hb2 := hb.2
  have H := Lib.hid (at_eq' i n h)
  clear hb
  go_enter Try.func8, Try.ntmps8
  go_wp2
  go_ret
  exact ⟨by rw [← H.out]; rfl, rfl⟩

theorem ix_lt (a : Int) {n : Nat} (h : 0 < n) : ix a n < n := by
  have h1 := Int.emod_lt_of_pos a (b := (n : Int)) (by omega)
  unfold ix; omega
theorem ix_eq (a : Int) {n : Nat} (h : 0 < n) : a % (n : Int) = (ix a n : Int) := by
  have h1 := Int.emod_nonneg a (b := (n : Int)) (by omega)
  unfold ix; omega

theorem at_ix (a : Int) (n : Nat) (w : World) (h : 0 < n) (h2 : n ≤ 4611686018427387904) : Calls Try.prog 15 #[.int .i64 a, .int .i64 n] w fun e w' => e = .returned (.int .i64 (ix a n)) ∧ w' = w :=
  (at_any a n w (by omega) (by omega)).mono fun _ _ h' => ⟨by rw [← ix_eq a h]; exact h'.1, h'.2.symm⟩
theorem At_ix (a : Int) (n : Nat) (w : World) (h : 0 < n) (h2 : n ≤ 4611686018427387904) : Calls Try.prog 8 #[.int .i64 a, .int .i64 n] w fun e w' => e = .returned (.int .i64 (ix a n)) ∧ w' = w :=
  (At_any a n w (by omega) (by omega)).mono fun _ _ h' => ⟨by rw [← ix_eq a h]; exact h'.1, h'.2.symm⟩

/-- The numbers from 0 on. -/
def nums (n : Nat) : List Int := marks 0 n
theorem nums_len (n : Nat) : (nums n).length = n := marks_len _ _
theorem nums_succ (n : Nat) : nums (n + 1) = nums n ++ [(n : Int)] := by simp [nums, marks_succ]

set_option maxRecDepth 100000 in
set_option maxHeartbeats 400000 in
theorem First_any (n : Int) (w : World) : Calls Try.prog 10 #[.int .i64 n] w (NewInts w (nums (n % 200).toNat)) := by
  obtain ⟨m, hm⟩ : ∃ m : Nat, n % 200 = m := ⟨(n % 200).toNat, by omega⟩
  have hm2 : m < 200 := by omega
  obtain ⟨i0, hi, hz0, hz1, hz2⟩ := info_parts intInfo
  rw [hm, Int.toNat_natCast]
  have HM := Lib.hid hm
  clear hm
  go_enter Try.func10, Try.ntmps10
  go_wp2
  go_loopw [3, 4] (fun v i wr => ∃ j : Nat, j ≤ m ∧ i = .int .i64 j ∧ OwnI wr w.heap.size v (nums j) ∧ Bl w wr) (fun _ i _ => m - (intOf i).toNat)
  case atStart => exact ⟨0, Nat.zero_le _, rfl, own_empty _ _ _, bl_alloc (bl_refl _) _⟩
  case round =>
    obtain ⟨j, hj, rfl, hown, hbl⟩ := hrel
    have HO := Lib.hid hown
    have HB := Lib.hid hbl
    clear hown hbl
    by_cases hlt : j < m
    · go_wp2_with fail
      refine (At_any _ _ _ (by omega) (by omega)).mono ?_
      rintro e w' ⟨rfl, rfl⟩
      rw [HM.out]
      go_wp2_with (at_builtin; go_must (refine wpList_push wr rfl (.tmp 12) (.tmp 14) _ rfl w.heap.size 3 i0 _ 8 Try.underlying23 hi hz0 hz1 hz2 rfl u3 _ _ rfl HO.out (.int .i64 j) rfl rfl rfl (by rw [nums_len]; omega) (by rw [nums_len]; omega) HB.out.size ?_); intro v1 w1 hown1 hchg1 hloc1)
      have HO1 := Lib.hid hown1
      have HB1 := Lib.hid (bl_own HB.out HO.out hchg1)
      clear hown1 hchg1 hloc1
      go_roundw
      case rel => exact ⟨j + 1, by omega, by go_num, by rw [nums_succ]; exact OwnI.snoc HO1.out, HB1.out⟩
      case measure => simp [intOf]; omega
    · obtain rfl : j = m := by omega
      go_wp2_with fail
      refine (At_any _ _ _ (by omega) (by omega)).mono ?_
      rintro e w' ⟨rfl, rfl⟩
      rw [HM.out]
      go_wp2
      go_ret
      exact ⟨_, rfl, HO.out, HB.out⟩

/-- How far to go. -/
def farOf (a : Int) : Int := a % 10001 - 5000
theorem farOf_bd (a : Int) : -5000 ≤ farOf a ∧ farOf a ≤ 5000 := by unfold farOf; omega


end Go.Proofs.Ythgghafndabpfaa
