/- The walks of the small functions: remainders, the numbers from 0 on. -/
import Derived.Test.YtebkmegkdcnfaaaMem
import Derived.Test.YtebkmegkdcnfaaaTurnPure
namespace Go.Proofs.Ytebkmegkdcnfaaa
open Go.RowKit

theorem at_eq (i n : Int) (h : 0 < n) : (i.tmod n + n).tmod n = i % n := by
  have h1 : -n < i.tmod n := by
    have := Int.lt_tmod_of_pos i h; omega
  have h3 : 0 ≤ i.tmod n + n := by omega
  rw [Int.tmod_eq_emod_of_nonneg h3, Int.add_emod_right]
  have h4 := Int.tmod_eq_emod (a := i) (b := n)
  rw [h4]
  split
  · simp
  · have : ((n.natAbs : Nat) : Int) = n := by omega
    rw [this]
    simp

theorem tmod_bounds (i n : Int) (h : 0 < n) : -n < i.tmod n ∧ i.tmod n < n := ⟨by have := Int.lt_tmod_of_pos i h; omega, Int.tmod_lt_of_pos i h⟩

theorem at_eq' (i n : Int) (h : 0 < n) : (i.tmod n + n) % n = i % n := by
  have hb := tmod_bounds i n h
  have h1 := at_eq i n h
  rwa [Int.tmod_eq_emod_of_nonneg (a := i.tmod n + n) (by omega)] at h1

set_option maxRecDepth 100000 in
set_option maxHeartbeats 400000 in
theorem at_any (i n : Int) (w : World) (h : 0 < n) (h2 : n ≤ 4611686018427387904) : Calls Try.prog 44 #[.int .i64 i, .int .i64 n] w fun e w' => e = .returned (.int .i64 (i % n)) ∧ w = w' := by
  have hb := tmod_bounds i n h
  have hb1 := hb.1
  have hb2 := hb.2
  have H := Lib.hid (at_eq' i n h)
  clear hb
  go_enter Try.func44, Try.ntmps44
  go_wp2
  go_ret
  exact ⟨by rw [← H.out]; rfl, rfl⟩

set_option maxRecDepth 100000 in
set_option maxHeartbeats 400000 in
theorem At_any (i n : Int) (w : World) (h : 0 < n) (h2 : n ≤ 4611686018427387904) : Calls Try.prog 15 #[.int .i64 i, .int .i64 n] w fun e w' => e = .returned (.int .i64 (i % n)) ∧ w = w' := by
  have hb := tmod_bounds i n h
  have hb1 := hb.1
  have hb2 := hb.2
  have H := Lib.hid (at_eq' i n h)
  clear hb
  go_enter Try.func15, Try.ntmps15
  go_wp2
  go_ret
  exact ⟨by rw [← H.out]; rfl, rfl⟩

theorem ix_lt (a : Int) {n : Nat} (h : 0 < n) : ix a n < n := by
  have h1 := Int.emod_lt_of_pos a (b := (n : Int)) (by omega)
  unfold ix; omega
theorem ix_eq (a : Int) {n : Nat} (h : 0 < n) : a % (n : Int) = (ix a n : Int) := by
  have h1 := Int.emod_nonneg a (b := (n : Int)) (by omega)
  unfold ix; omega

theorem at_ix (a : Int) (n : Nat) (w : World) (h : 0 < n) (h2 : n ≤ 4611686018427387904) : Calls Try.prog 44 #[.int .i64 a, .int .i64 n] w fun e w' => e = .returned (.int .i64 (ix a n)) ∧ w' = w :=
  (at_any a n w (by omega) (by omega)).mono fun _ _ h' => ⟨by rw [← ix_eq a h]; exact h'.1, h'.2.symm⟩
theorem At_ix (a : Int) (n : Nat) (w : World) (h : 0 < n) (h2 : n ≤ 4611686018427387904) : Calls Try.prog 15 #[.int .i64 a, .int .i64 n] w fun e w' => e = .returned (.int .i64 (ix a n)) ∧ w' = w :=
  (At_any a n w (by omega) (by omega)).mono fun _ _ h' => ⟨by rw [← ix_eq a h]; exact h'.1, h'.2.symm⟩

/-- The numbers from 0 on. -/
def nums (n : Nat) : List Int := marks 0 n
theorem nums_len (n : Nat) : (nums n).length = n := marks_len _ _
theorem nums_succ (n : Nat) : nums (n + 1) = nums n ++ [(n : Int)] := by simp [nums, marks_succ]

set_option maxRecDepth 100000 in
set_option maxHeartbeats 400000 in
theorem First_any (n : Int) (w : World) : Calls Try.prog 17 #[.int .i64 n] w (NewInts w (nums (n % 200).toNat)) := by
  obtain ⟨m, hm⟩ : ∃ m : Nat, n % 200 = m := ⟨(n % 200).toNat, by omega⟩
  have hm2 : m < 200 := by omega
  obtain ⟨i0, hi, hz0, hz1, hz2⟩ := info_parts intInfo
  rw [hm, Int.toNat_natCast]
  have HM := Lib.hid hm
  clear hm
  go_enter Try.func17, Try.ntmps17
  go_wp2
  go_loopw [3, 4] (fun v i wr => ∃ j : Nat, j ≤ m ∧ i = .int .i64 j ∧ OwnI wr w.heap.size v (nums j) ∧ Bl w wr) (fun _ i _ => m - (intOf i).toNat)
  case atStart => exact ⟨0, Nat.zero_le _, rfl, own_empty _ _ _, bl_alloc (bl_refl _) _⟩
  case round =>
    obtain ⟨j, hj, rfl, hown, hbl⟩ := hrel
    have HO := Lib.hid hown
    have HB := Lib.hid hbl
    clear hown hbl
    by_cases hlt : j < m
    · go_wp2_with fail
      refine (At_any _ _ _ (by omega) (by omega)).mono ?_
      rintro e w' ⟨rfl, rfl⟩
      rw [HM.out]
      go_wp2_with (at_builtin; go_must (refine wpList_push wr rfl (.tmp 12) (.tmp 14) _ rfl w.heap.size 3 i0 _ 8 Try.underlying23 hi hz0 hz1 hz2 rfl u3 _ _ rfl HO.out (.int .i64 j) rfl rfl rfl (by rw [nums_len]; omega) (by rw [nums_len]; omega) HB.out.size ?_); intro v1 w1 hown1 hchg1 hloc1)
      have HO1 := Lib.hid hown1
      have HB1 := Lib.hid (bl_own HB.out HO.out hchg1)
      clear hown1 hchg1 hloc1
      go_roundw
      case rel => exact ⟨j + 1, by omega, by go_num, by rw [nums_succ]; exact OwnI.snoc HO1.out, HB1.out⟩
      case measure => simp [intOf]; omega
    · obtain rfl : j = m := by omega
      go_wp2_with fail
      refine (At_any _ _ _ (by omega) (by omega)).mono ?_
      rintro e w' ⟨rfl, rfl⟩
      rw [HM.out]
      go_wp2
      go_ret
      exact ⟨_, rfl, HO.out, HB.out⟩

/-- How far to go. -/
def farOf (a : Int) : Int := a % 10001 - 5000
theorem farOf_bd (a : Int) : -5000 ≤ farOf a ∧ farOf a ≤ 5000 := by unfold farOf; omega
set_option maxRecDepth 100000 in
set_option maxHeartbeats 400000 in
theorem far_any (a : Int) (w : World) : Calls Try.prog 65 #[.int .i64 a] w fun e w' => e = .returned (.int .i64 (farOf a)) ∧ w = w' := by
  have h0 := Int.emod_nonneg a (b := 10001) (by omega)
  have h1 := Int.emod_lt_of_pos a (b := 10001) (by omega)
  go_enter Try.func65, Try.ntmps65
  go_wp2_with fail
  refine (at_any a 10001 _ (by omega) (by omega)).mono ?_
  rintro e w1 ⟨rfl, rfl⟩
  go_wp2
  go_ret
  exact ⟨rfl, rfl⟩
set_option maxRecDepth 100000 in
set_option maxHeartbeats 400000 in
theorem Far_any (a : Int) (w : World) : Calls Try.prog 73 #[.int .i64 a] w fun e w' => e = .returned (.int .i64 (farOf a)) ∧ w = w' := by
  have h0 := Int.emod_nonneg a (b := 10001) (by omega)
  have h1 := Int.emod_lt_of_pos a (b := 10001) (by omega)
  go_enter Try.func73, Try.ntmps73
  go_wp2_with fail
  refine (At_any a 10001 _ (by omega) (by omega)).mono ?_
  rintro e w1 ⟨rfl, rfl⟩
  go_wp2
  go_ret
  exact ⟨rfl, rfl⟩

/-- The index of a number, or -1. -/
def placeOf (xs : List Int) (v : Int) : Int := if v ∈ xs then (xs.idxOf v : Int) else -1

set_option maxRecDepth 100000 in
set_option maxHeartbeats 400000 in
theorem place_in (u : Value) (xs : List Int) (w : World) (hu : Ints w u xs) (k : Nat) (hk : k < xs.length) (hfirst : ∀ j (hj : j < k), xs[j] ≠ xs[k]) :
    Calls Try.prog 82 #[u, .int .i64 xs[k]] w fun e w' => e = .returned (.int .i64 k) ∧ w = w' := by
  obtain ⟨A, c, rfl, hc, hm, hv⟩ := hu.open
  have HV := Lib.hid hv
  have HF := Lib.hid hfirst
  clear hv hfirst
  unfold maxLen at hm
  generalize hx : xs[k] = x at *
  have HX := Lib.hid hx
  clear hx
  go_enter Try.func82, Try.ntmps82
  go_wp2
  go_loop [5, 6, 9] (fun _ _ i => ∃ j : Nat, j ≤ k ∧ i = .int .i64 j) (fun _ _ i => xs.length - (intOf i).toNat)
  case atStart => exact ⟨0, Nat.zero_le _, rfl⟩
  case round =>
    obtain ⟨j, hj, rfl⟩ := hrel
    have hjl : j < xs.length := by omega
    obtain ⟨b, off, rfl, hc1⟩ := HV.out j hjl
    by_cases hlt : j < k
    · have hne : (xs[j] == x) = false := by
        rw [beq_eq_false_iff_ne]
        exact HF.out j hlt
      go_wp2
      go_round
      case rel => exact ⟨j + 1, by omega, by go_num⟩
      case measure => simp [intOf]; omega
    · obtain rfl : j = k := by omega
      have he : xs[j] = x := HX.out
      rw [he] at hc1
      clear he
      go_wp2
      go_ret
      exact ⟨rfl, rfl⟩

theorem place_at (u : Value) (xs : List Int) (w : World) (hu : Ints w u xs) {x : Int} (k : Nat) (hk : k < xs.length) (hx : xs[k] = x) (hfirst : ∀ j (hj : j < k), xs[j] ≠ x) :
    Calls Try.prog 82 #[u, .int .i64 x] w fun e w' => e = .returned (.int .i64 k) ∧ w = w' := by
  subst hx
  exact place_in u xs w hu k hk hfirst

end Go.Proofs.Ytebkmegkdcnfaaa
