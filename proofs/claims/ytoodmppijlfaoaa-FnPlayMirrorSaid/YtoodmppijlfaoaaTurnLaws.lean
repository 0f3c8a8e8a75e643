/- FnTurnBoth and FnTurnTwice return true: the walks of the laws. -/
import Derived.Test.YtoodmppijlfaoaaTurnList
import Derived.Test.YtoodmppijlfaoaaCirclePure
import Derived.Test.YtoodmppijlfaoaaOrder
namespace Go.Proofs.Ytoodmppijlfaoaa
open Go.RowKit

set_option maxHeartbeats 400000 in
theorem Near_any (d : Int) (w : World) (h : -4611686018427387904 ≤ d ∧ d ≤ 4611686018427387904) : Calls Try.prog 23 #[.int .i64 d] w fun e w' => e = .returned (.int .i64 (d + 5000)) ∧ w = w' := by
  obtain ⟨h1, h2⟩ := h
  go_enter Try.func23, Try.ntmps23
  go_wp2
  go_ret
  exact ⟨rfl, rfl⟩

theorem farOf_near {d : Int} (h : -5000 ≤ d ∧ d ≤ 5000) : farOf (d + 5000) = d := by
  unfold farOf; omega

theorem ix_add (d e : Int) {n : Nat} (hn : 0 < n) : ix ((ix d n : Nat) + e) n = ix (d + e) n := by
  have h : ((ix d n : Nat) : Int) = d % (n : Int) := (ix_eq d hn).symm
  show ((((ix d n : Nat) : Int) + e) % (n : Int)).toNat = ((d + e) % (n : Int)).toNat
  rw [h, Int.emod_add_emod]
theorem ix_zero (n : Nat) : ix 0 n = 0 := by simp [ix]
theorem rot_zero {α : Type} (xs : List α) : rot xs 0 = xs := by simp [rot]

/-- Two turns are one. -/
theorem turn_turn (xs : List Int) (a b : Int) : turnOf (turnOf xs a) b = rot xs (ix (farOf a + farOf b) xs.length) := by
  rcases Nat.eq_zero_or_pos xs.length with h | h
  · obtain rfl : xs = [] := List.eq_nil_of_length_eq_zero h
    rw [turnOf_nil, turnOf_nil]; simp [rot]
  · have hk := ix_lt (farOf a) h
    have e := rot_next (farOf b) (ix (farOf a) xs.length) (by omega) h
    unfold turnOf
    rw [rot_len, e, ix_add _ _ h]
theorem turn_back (xs : List Int) (a : Int) : turnOf (turnOf xs a) (- farOf a + 5000) = xs := by
  have hb := farOf_bd a
  rw [turn_turn, farOf_near (by omega), show farOf a + - farOf a = 0 by omega, ix_zero, rot_zero]
theorem turn_both (xs : List Int) (j k : Int) (hj : -1000 ≤ j ∧ j ≤ 1000) (hk : -1000 ≤ k ∧ k ≤ 1000) : turnOf (turnOf xs (j + 5000)) (k + 5000) = turnOf xs (j + k + 5000) := by
  rw [turn_turn, farOf_near (by omega), farOf_near (by omega)]
  unfold turnOf
  rw [farOf_near (by omega)]

set_option maxHeartbeats 4000000 in
theorem turnBoth_any (a : Int) (v : Value) (xs : List Int) (w : World) (hv : Ints w v xs) (hl : xs.length * 8 ≤ 140737488351232) :
    Calls Try.prog 13 #[v, .int .i64 a] w fun e w' => e = .returned (.bool true) ∧ Bl w w' := by
  have hb := farOf_bd a
  obtain ⟨hb1, hb2⟩ := hb
  have HV := Lib.hid hv
  obtain ⟨A, c, rfl, hc, hm, _⟩ := hv.open
  unfold maxLen at hm
  have HT := Lib.hid (turn_back xs a)
  have hlt := turnOf_len xs a
  have HL := Lib.hid hlt
  clear hv hlt
  go_enter Try.func13, Try.ntmps13
  go_wp2_with fail
  refine (TurnList_impl _ xs a _ HV.out (by omega)).mono ?_
  rintro e w1 ⟨v1, rfl, o1, b1⟩
  have O1 := Lib.hid (OwnI.ints o1)
  obtain ⟨A1, c1, rfl, hc1, hm1, _⟩ := own_open o1
  rw [HL.out] at *
  have B1 := Lib.hid b1
  clear o1 b1
  go_wp2_with fail
  refine (Far_any a _).mono ?_
  rintro e w2 ⟨rfl, rfl⟩
  go_wp2_with fail
  refine (Near_any (- farOf a) _ (by omega)).mono ?_
  rintro e w2 ⟨rfl, rfl⟩
  go_wp2_with fail
  refine (TurnRing_impl _ xs a _ (HV.out.bl B1.out) (by omega)).mono ?_
  rintro e w3 ⟨v3, rfl, o3, b3⟩
  have O3 := Lib.hid (OwnI.ints o3)
  have B3 := Lib.hid b3
  clear o3 b3
  go_wp2_with fail
  refine (same_true _ v3 _ _ (O1.out.bl B3.out) O3.out).mono ?_
  rintro e w4 ⟨rfl, b4⟩
  have B4 := Lib.hid (bl_trans B3.out b4)
  clear b4
  go_wp2_with fail
  refine (TurnRing_impl _ (turnOf xs a) _ _ (O1.out.bl B4.out) (by rw [turnOf_len]; omega)).mono ?_
  rintro e w5 ⟨v5, rfl, o5, b5⟩
  rw [HT.out] at o5
  have O5 := Lib.hid (OwnI.ints o5)
  have B5 := Lib.hid (bl_trans B4.out b5)
  clear o5 b5
  go_wp2_with fail
  refine (same_true v5 _ _ _ O5.out (HV.out.bl (bl_trans B1.out B5.out))).mono ?_
  rintro e w6 ⟨rfl, b6⟩
  have B6 := Lib.hid (bl_trans B5.out b6)
  clear b6
  go_wp2_with fail
  refine (TurnList_impl _ (turnOf xs a) _ _ (O1.out.bl B6.out) (by rw [turnOf_len]; omega)).mono ?_
  rintro e w7 ⟨v7, rfl, o7, b7⟩
  rw [HT.out] at o7
  have O7 := Lib.hid (OwnI.ints o7)
  have B7 := Lib.hid (bl_trans B6.out b7)
  clear o7 b7
  go_wp2_with fail
  refine (same_true v7 _ _ _ O7.out (HV.out.bl (bl_trans B1.out B7.out))).mono ?_
  rintro e w8 ⟨rfl, b8⟩
  have B8 := Lib.hid (bl_trans B1.out (bl_trans B7.out b8))
  clear b8
  go_wp2
  go_ret
  exact ⟨rfl, B8.out⟩

set_option maxHeartbeats 4000000 in
theorem turnTwice_any (j k : Int) (v : Value) (xs : List Int) (w : World) (hv : Ints w v xs) (hl : xs.length * 8 ≤ 140737488351232) :
    Calls Try.prog 14 #[v, .int .i64 j, .int .i64 k] w fun e w' => e = .returned (.bool true) ∧ Bl w w' := by
  have HV := Lib.hid hv
  obtain ⟨A, c, rfl, hc, hm, _⟩ := hv.open
  unfold maxLen at hm
  clear hv
  have hj1 := Int.emod_nonneg j (b := 2001) (by omega)
  have hj2 := Int.emod_lt_of_pos j (b := 2001) (by omega)
  have hk1 := Int.emod_nonneg k (b := 2001) (by omega)
  have hk2 := Int.emod_lt_of_pos k (b := 2001) (by omega)
  have HT := Lib.hid (turn_both xs (j % 2001 - 1000) (k % 2001 - 1000) (by omega) (by omega))
  go_enter Try.func14, Try.ntmps14
  go_wp2_with fail
  refine (At_any j 2001 _ (by omega) (by omega)).mono ?_
  rintro e w1 ⟨rfl, rfl⟩
  go_wp2_with fail
  refine (At_any k 2001 _ (by omega) (by omega)).mono ?_
  rintro e w1 ⟨rfl, rfl⟩
  go_wp2_with fail
  refine (Near_any _ _ (by omega)).mono ?_
  rintro e w1 ⟨rfl, rfl⟩
  go_wp2_with fail
  have hJ : -1000 ≤ j % 2001 - 1000 ∧ j % 2001 - 1000 ≤ 1000 := by omega
  have hK : -1000 ≤ k % 2001 - 1000 ∧ k % 2001 - 1000 ≤ 1000 := by omega
  clear hj1 hj2 hk1 hk2
  generalize j % 2001 - 1000 = J at *
  generalize k % 2001 - 1000 = K at *
  refine (TurnRing_impl _ xs _ _ HV.out (by omega)).mono ?_
  rintro e w1 ⟨v1, rfl, o1, b1⟩
  have HL := Lib.hid (turnOf_len xs (J + K + 5000))
  have O1 := Lib.hid (OwnI.ints o1)
  obtain ⟨A1, c1, rfl, hc1, hm1, _⟩ := own_open o1
  have B1 := Lib.hid b1
  rw [HL.out] at *
  clear o1 b1
  go_wp2_with fail
  refine (Near_any _ _ (by omega)).mono ?_
  rintro e w2 ⟨rfl, rfl⟩
  go_wp2_with fail
  refine (Near_any _ _ (by omega)).mono ?_
  rintro e w2 ⟨rfl, rfl⟩
  go_wp2_with fail
  refine (TurnRing_impl _ xs _ _ (HV.out.bl B1.out) (by omega)).mono ?_
  rintro e w2 ⟨v2, rfl, o2, b2⟩
  have O2 := Lib.hid (OwnI.ints o2)
  have B2 := Lib.hid b2
  clear o2 b2
  go_wp2_with fail
  refine (TurnRing_impl _ _ _ _ O2.out (by rw [turnOf_len]; omega)).mono ?_
  rintro e w3 ⟨v3, rfl, o3, b3⟩
  rw [HT.out] at o3
  have O3 := Lib.hid (OwnI.ints o3)
  have B3 := Lib.hid (bl_trans B2.out b3)
  clear o3 b3
  go_wp2_with fail
  refine (same_true _ _ _ _ O3.out (O1.out.bl B3.out)).mono ?_
  rintro e w4 ⟨rfl, b4⟩
  have B4 := Lib.hid (bl_trans B3.out b4)
  clear b4
  go_wp2_with fail
  refine (TurnList_impl _ xs _ _ (HV.out.bl (bl_trans B1.out B4.out)) (by omega)).mono ?_
  rintro e w5 ⟨v5, rfl, o5, b5⟩
  have O5 := Lib.hid (OwnI.ints o5)
  have B5 := Lib.hid (bl_trans B4.out b5)
  clear o5 b5
  go_wp2_with fail
  refine (TurnList_impl _ _ _ _ O5.out (by rw [turnOf_len]; omega)).mono ?_
  rintro e w6 ⟨v6, rfl, o6, b6⟩
  rw [HT.out] at o6
  have O6 := Lib.hid (OwnI.ints o6)
  have B6 := Lib.hid (bl_trans B5.out b6)
  clear o6 b6
  go_wp2_with fail
  refine (same_true _ _ _ _ O6.out (O1.out.bl B6.out)).mono ?_
  rintro e w7 ⟨rfl, b7⟩
  have B7 := Lib.hid (bl_trans B1.out (bl_trans B6.out b7))
  clear b7
  go_wp2
  go_ret
  exact ⟨rfl, B7.out⟩

end Go.Proofs.Ytoodmppijlfaoaa
