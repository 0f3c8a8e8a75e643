/- FnDealTwice returns true: the walk of the law. -/
import Derived.Test.YtgjackalcajmjaaGatherLaws
namespace Go.Proofs.Ytgjackalcajmjaa
open Go.RowKit

theorem flatten_blank (H : Nat) : (List.replicate H ([] : List Int)).flatten = [] := by
  induction H with
  | zero => rfl
  | succ H ih => rw [List.replicate_succ, List.flatten_cons, ih]; rfl

set_option maxHeartbeats 4000000 in
theorem dealTwice_any (k : Int) (u : Value) (xs : List Int) (w : World) (hu : Ints w u xs) (hl : xs.length * 8 ≤ 140737488351232) :
    Calls Try.prog 4 #[u, .int .i64 k] w fun e w' => e = .returned (.bool true) ∧ Bl w w' := by
  have HU := Lib.hid hu
  obtain ⟨A, c, rfl, hc, hm, _⟩ := hu.open
  unfold maxLen at hm
  clear hu
  have hh := handsOf_bd k
  obtain ⟨hh1, hh2⟩ := hh
  go_enter Try.func4, Try.ntmps4
  go_wp2_with fail
  refine (Hands_any k _).mono ?_
  rintro e w1 ⟨rfl, rfl⟩
  have HKH : Hid (∀ m : Nat, 0 < m → m ≤ 50 → handsOf ((m : Int) - 1) = m) := fun m h1 h2 => by
    unfold handsOf ix
    rw [Int.emod_eq_of_lt (by omega) (by omega)]
    omega
  have HDK : Hid (dealOf [] k = List.replicate (handsOf k) []) := rfl
  generalize handsOf k = H at *
  have hdiv : xs.length / H * H ≤ xs.length := Nat.div_mul_le_self _ _
  have hq1 : ((xs.length : Int) / (H : Int)) = ((xs.length / H : Nat) : Int) := by omega
  have hq2 : ((xs.length : Int).tdiv (H : Int)) = ((xs.length / H : Nat) : Int) := by rw [Int.tdiv_eq_ediv_of_nonneg (by omega)]; exact hq1
  have hRle : xs.length / H ≤ xs.length := Nat.div_le_self _ _
  generalize hR : xs.length / H = R at *
  obtain ⟨T, hT⟩ : ∃ T, T = R * H := ⟨_, rfl⟩
  have hq3 : (R : Int) * (H : Int) = (T : Int) := by rw [hT]; simp
  rw [← hT] at hdiv
  have HTT := Lib.hid hT
  have HTK : Hid (Ints w (.slice A T c) (xs.take T)) := by
    have h1 := HU.out.take T hdiv
    have : (xs.take T).length = T := by rw [List.length_take]; omega
    unfold Ints
    rw [this]; exact h1
  have hTl : (xs.take T).length = T := by rw [List.length_take]; omega
  have HTL := Lib.hid hTl
  clear hT hTl hR
  rcases Nat.eq_zero_or_pos R with hR0 | hR0
  · subst hR0
    go_wp2_with fail
    refine (DealList_impl (.slice none 0 0) [] k _ ⟨rfl, _, _, rfl, Nat.le_refl _, Nat.zero_le _, fun h => absurd h (by simp)⟩ (by simp)).mono ?_
    rintro e w2 ⟨v2, us2, rfl, o2, b2⟩
    rw [HDK.out] at o2
    have O2 := Lib.hid (OwnSS.rowss o2)
    have B2 := Lib.hid b2
    clear o2 b2
    go_wp2_with fail
    refine (JoinList_impl v2 _ _ O2.out (by rw [← flatten_len, flatten_blank]; simp) (by rw [List.length_replicate]; omega)).mono ?_
    rintro e w3 ⟨v3, rfl, o3, b3⟩
    rw [flatten_blank] at o3
    obtain ⟨A3, c3, rfl, _, _, _⟩ := own_open o3
    have B3 := Lib.hid (bl_trans B2.out b3)
    clear o3 b3
    go_wp2
    go_ret
    exact ⟨rfl, B3.out⟩
  · have hRb : ((R : Int) == 0) = false := by rw [beq_eq_false_iff_ne]; omega
    by_cases hR5 : 50 < R
    · have hR6 : (50 : Int) < (R : Int) := by omega
      go_wp2_with fail
      refine (DealList_impl (.slice none 0 0) [] k _ ⟨rfl, _, _, rfl, Nat.le_refl _, Nat.zero_le _, fun h => absurd h (by simp)⟩ (by simp)).mono ?_
      rintro e w2 ⟨v2, us2, rfl, o2, b2⟩
      rw [HDK.out] at o2
      have O2 := Lib.hid (OwnSS.rowss o2)
      have B2 := Lib.hid b2
      clear o2 b2
      go_wp2_with fail
      refine (JoinList_impl v2 _ _ O2.out (by rw [← flatten_len, flatten_blank]; simp) (by rw [List.length_replicate]; omega)).mono ?_
      rintro e w3 ⟨v3, rfl, o3, b3⟩
      rw [flatten_blank] at o3
      obtain ⟨A3, c3, rfl, _, _, _⟩ := own_open o3
      have B3 := Lib.hid (bl_trans B2.out b3)
      clear o3 b3
      go_wp2
      go_ret
      exact ⟨rfl, B3.out⟩
    · have hR6 : ¬ (50 : Int) < (R : Int) := by omega
      have e1 : handsOf ((H : Int) - 1) = H := HKH.out H hh1 hh2
      have e2 : handsOf ((R : Int) - 1) = R := HKH.out R hR0 (by omega)
      have HD1 : Hid (∀ zs, dealOf zs ((H : Int) - 1) = deal H zs) := fun zs => by unfold dealOf; rw [e1]
      have HD2 : Hid (∀ zs, dealOf zs ((R : Int) - 1) = deal R zs) := fun zs => by unfold dealOf; rw [e2]
      clear e1 e2
      have HTW := Lib.hid (deal_twice hh1 hR0 (xs.take T) (by rw [HTL.out]; exact HTT.out))
      have HYL := Lib.hid (deal_flat_len hh1 (xs.take T))
      have hs1 : sumLen (deal H (xs.take T)) ≤ 17592186043904 := by
        have := deal_sum H hh1 (xs.take T)
        show ((deal H (xs.take T)).map List.length).sum ≤ _
        rw [this, HTL.out]; omega
      have hs2 : (deal H (xs.take T)).length ≤ 17592186043904 := by rw [deal_len]; omega
      have hyl : (deal H (xs.take T)).flatten.length ≤ 17592186043904 := by rw [HYL.out, HTL.out]; omega
      have hs3 : sumLen (deal R (deal H (xs.take T)).flatten) ≤ 17592186043904 := by
        have := deal_sum R hR0 (deal H (xs.take T)).flatten
        show ((deal R (deal H (xs.take T)).flatten).map List.length).sum ≤ _
        rw [this]; exact hyl
      have hs4 : (deal R (deal H (xs.take T)).flatten).length ≤ 17592186043904 := by rw [deal_len]; omega
      have hTb : T ≤ 2500 := by rw [HTT.out]; exact Nat.mul_le_mul (show R ≤ 50 by omega) hh2
      have hs6 : sumLen (deal H (xs.take T)) < 17592186043904 := by
        have := deal_sum H hh1 (xs.take T)
        show ((deal H (xs.take T)).map List.length).sum < _
        rw [this, HTL.out]; omega
      have hs7 : sumLen (deal R (deal H (xs.take T)).flatten) < 17592186043904 := by
        have := deal_sum R hR0 (deal H (xs.take T)).flatten
        show ((deal R (deal H (xs.take T)).flatten).map List.length).sum < _
        rw [this, HYL.out, HTL.out]; omega
      have hxt : (xs.take T).length ≤ 17592186043904 := by rw [HTL.out]; omega
      generalize xs.take T = X at *
      go_wp2_with fail
      refine (DealList_impl _ X _ _ HTK.out hxt).mono ?_
      rintro e w2 ⟨v2, us2, rfl, o2, b2⟩
      rw [HD1.out] at o2
      have O2 := Lib.hid (OwnSS.rowss o2)
      have B2 := Lib.hid b2
      clear o2 b2
      go_wp2_with fail
      refine (JoinList_impl v2 _ _ O2.out hs1 hs2).mono ?_
      rintro e w3 ⟨v3, rfl, o3, b3⟩
      have O3 := Lib.hid (OwnI.ints o3)
      have B3 := Lib.hid (bl_trans B2.out b3)
      clear o3 b3
      go_wp2_with fail
      refine (DealRing_impl _ X _ _ (HTK.out.bl B3.out) hxt).mono ?_
      rintro e w4 ⟨v4, us4, rfl, o4, b4⟩
      rw [HD1.out] at o4
      have O4 := Lib.hid (OwnSS.rowss o4)
      have C4 := Lib.hid b4
      clear o4 b4
      go_wp2_with fail
      refine (JoinRing_impl v4 _ _ O4.out hs6).mono ?_
      rintro e w5 ⟨v5, rfl, o5, b5⟩
      have O5 := Lib.hid (OwnX.ints o5)
      have C5 := Lib.hid (bl_trans C4.out b5)
      clear o5 b5
      go_wp2_with fail
      refine (DealList_impl v3 _ _ _ (O3.out.bl C5.out) hyl).mono ?_
      rintro e w6 ⟨v6, us6, rfl, o6, b6⟩
      rw [HD2.out] at o6
      have O6 := Lib.hid (OwnSS.rowss o6)
      have D6 := Lib.hid b6
      clear o6 b6
      go_wp2_with fail
      refine (JoinList_impl v6 _ _ O6.out hs3 hs4).mono ?_
      rintro e w7 ⟨v7, rfl, o7, b7⟩
      rw [HTW.out] at o7
      have O7 := Lib.hid (OwnI.ints o7)
      have D7 := Lib.hid (bl_trans D6.out b7)
      clear o7 b7
      go_wp2_with fail
      refine (same_true v7 _ _ _ O7.out (HTK.out.bl (bl_trans B3.out (bl_trans C5.out D7.out)))).mono ?_
      rintro e w8 ⟨rfl, b8⟩
      have D8 := Lib.hid (bl_trans D7.out b8)
      clear b8
      go_wp2_with fail
      refine (DealRing_impl v5 _ _ _ (O5.out.bl D8.out) hyl).mono ?_
      rintro e w9 ⟨v9, us9, rfl, o9, b9⟩
      rw [HD2.out] at o9
      have O9 := Lib.hid (OwnSS.rowss o9)
      have D9 := Lib.hid (bl_trans D8.out b9)
      clear o9 b9
      go_wp2_with fail
      refine (JoinRing_impl v9 _ _ O9.out hs7).mono ?_
      rintro e w10 ⟨v10, rfl, o10, b10⟩
      rw [HTW.out] at o10
      have O10 := Lib.hid (OwnX.ints o10)
      have D10 := Lib.hid (bl_trans D9.out b10)
      clear o10 b10
      go_wp2_with fail
      refine (same_true v10 _ _ _ O10.out (HTK.out.bl (bl_trans B3.out (bl_trans C5.out D10.out)))).mono ?_
      rintro e w11 ⟨rfl, b11⟩
      have D11 := Lib.hid (bl_trans B3.out (bl_trans C5.out (bl_trans D10.out b11)))
      clear b11
      go_wp2
      go_ret
      exact ⟨rfl, D11.out⟩

end Go.Proofs.Ytgjackalcajmjaa
