/- FnCircleBoth, FnCircleEnds and FnCircleRecurs return true: the walks of the laws. -/
import Derived.Test.YtoodmppijlfaoaaCircleList
import Derived.Test.YtoodmppijlfaoaaCircleRing
import Derived.Test.YtoodmppijlfaoaaCircleMore
import Derived.Test.YtoodmppijlfaoaaTurnLaws
import Derived.Test.YtoodmppijlfaoaaOrder
namespace Go.Proofs.Ytoodmppijlfaoaa
open Go.RowKit

set_option maxHeartbeats 1000000 in
theorem circleBoth_in (n k : Int) (w : World) : Calls Try.prog 10 #[.int .i64 n, .int .i64 k] w fun e w' => e = .returned (.bool true) ∧ Bl w w' := by
  have HC := Lib.hid (circleOf_count n k)
  go_enter Try.func10, Try.ntmps10
  go_wp2_with fail
  refine (CircleList_impl n k _).mono ?_
  rintro e w1 ⟨v1, rfl, o1, b1⟩
  have O1 := Lib.hid (OwnI.ints o1)
  have B1 := Lib.hid b1
  clear o1 b1
  go_wp2_with fail
  refine (isOrder_true v1 _ n _ O1.out HC.out.1 HC.out.2).mono ?_
  rintro e w2 ⟨rfl, rfl⟩
  go_wp2_with fail
  refine (CircleRing_impl n k _).mono ?_
  rintro e w3 ⟨v3, rfl, o3, b3⟩
  have O3 := Lib.hid (OwnI.ints o3)
  have B3 := Lib.hid b3
  clear o3 b3
  go_wp2_with fail
  refine (same_true v1 v3 _ _ (O1.out.bl B3.out) O3.out).mono ?_
  rintro e w4 ⟨rfl, b4⟩
  have B4 := Lib.hid (bl_trans B1.out (bl_trans B3.out b4))
  clear b4
  go_wp2
  go_ret
  exact ⟨rfl, B4.out⟩

theorem circleOf_up (n : Int) : circleOf n 5000 = nums (ix n 200) := by
  unfold circleOf
  rw [show farOf 5000 = 0 by decide]
  exact circle_zero _ _ rfl
theorem circleOf_down (n : Int) : circleOf n 4999 = (nums (ix n 200)).reverse := by
  unfold circleOf
  rw [show farOf 4999 = -1 by decide]
  exact circle_back _ _ rfl

set_option maxHeartbeats 2000000 in
theorem circleEnds_in (n : Int) (w : World) : Calls Try.prog 11 #[.int .i64 n] w fun e w' => e = .returned (.bool true) ∧ Bl w w' := by
  have HU := Lib.hid (circleOf_up n)
  have HD := Lib.hid (circleOf_down n)
  have hN := ix_lt n (n := 200) (by omega)
  obtain ⟨i0, hi, hz0, hz1, hz2⟩ := info_parts intInfo
  go_enter Try.func11, Try.ntmps11
  go_wp2_with fail
  refine (First_any n _).mono ?_
  rintro e w1 ⟨v1, rfl, o1, b1⟩
  have o1' : OwnI w1 w.heap.size v1 (nums (ix n 200)) := o1
  generalize hNN : ix n 200 = N at *
  have HN := Lib.hid hNN
  clear o1 hNN
  obtain ⟨A1, c1, rfl, hc1, hm1, _⟩ := own_open o1'
  have O1 := Lib.hid (OwnI.ints o1')
  have B1 := Lib.hid b1
  clear b1 o1'
  unfold maxLen at hm1
  rw [nums_len] at *
  go_wp2
  go_loopg [4, 5] (N + 1) (fun g dv i wr => ∃ k : Nat, (k ≤ N ∧ k + g = N + 1) ∧ i = .int .i64 ((N : Int) - 1 - k) ∧ OwnI wr w1.heap.size dv ((nums N).reverse.take k) ∧ Bl w1 wr)
  case atStart => exact ⟨0, by omega, by go_num, own_empty _ _ _, bl_alloc (bl_refl _) _⟩
  case round =>
    obtain ⟨k, hk, rfl, hown, hbl⟩ := hrel
    have HK := Lib.hid hk
    have HO := Lib.hid hown
    have HB := Lib.hid hbl
    clear hown hbl hk
    by_cases hlt : k < N
    · obtain ⟨m, hm⟩ : ∃ m : Nat, (N : Int) - 1 - k = m ∧ m = N - 1 - k := ⟨N - 1 - k, by omega, rfl⟩
      obtain ⟨hm, hm'⟩ := hm
      obtain ⟨_, _, e0, _, _, hv⟩ := O1.out.open
      injection e0 with e1 e2 e3
      subst e1 e3
      obtain ⟨b, off, rfl, hc⟩ := hv m (by rw [nums_len]; omega)
      rw [nums_get (by omega)] at hc
      have r1 := (HB.out.cell (World.block_lt_of_cell? _ _ hc)).trans hc
      have HT : Hid ((nums N).reverse.take (k + 1) = (nums N).reverse.take k ++ [(m : Int)]) := by
        have hl : k < (nums N).reverse.length := by rw [List.length_reverse, nums_len]; exact hlt
        show (nums N).reverse.take (k + 1) = _
        rw [List.take_succ_eq_append_getElem hl, List.getElem_reverse]
        congr 2
        have : (nums N).length - 1 - k = m := by rw [nums_len]; omega
        simp only [this]
        exact nums_get (by omega)
      have HLK : Hid (((nums N).reverse.take k).length = k) := by
        show ((nums N).reverse.take k).length = k
        rw [List.length_take, List.length_reverse, nums_len]; omega
      have hmN : m < N := by omega
      clear hv hc e2
      rw [hm]
      have HM := Lib.hid hm
      have HM' := Lib.hid hm'
      clear hm hm'
      go_wp2_with (at_builtin; go_must (refine wpList_push wr rfl (.tmp 16) (.tmp 21) _ rfl w1.heap.size 3 i0 _ 8 Try.underlying23 hi hz0 hz1 hz2 rfl u4 _ _ rfl HO.out (.int .i64 m) rfl rfl rfl (by rw [HLK.out]; omega) (by rw [HLK.out]; omega) HB.out.size ?_); intro v1 w2 hown1 hchg1 hloc1)
      have HO1 := Lib.hid hown1
      have HB1 := Lib.hid (bl_own HB.out HO.out hchg1)
      clear hown1 hchg1 hloc1
      go_roundg (N - k)
      case rel =>
        refine ⟨k + 1, by omega, ?_, by rw [HT.out]; exact OwnI.snoc HO1.out, HB1.out⟩
        have := HM.out
        go_num
      case measure => have := HK.out; omega
    · have hkk : k = N := by
        have := HK.out
        omega
      subst hkk
      have HTT : Hid ((nums k).reverse.take k = (nums k).reverse) := List.take_of_length_le (by rw [List.length_reverse, nums_len]; exact Nat.le_refl _)
      rw [HTT.out] at HO
      rw [show ((k : Int) - 1 - k) = -1 by omega]
      have OD := Lib.hid (OwnI.ints HO.out)
      have BW := Lib.hid (bl_trans B1.out HB.out)
      have OU := Lib.hid (O1.out.bl HB.out)
      clear HO HTT O1
      go_wp2_with fail
      refine (Near_any 0 _ (by omega)).mono ?_
      rintro e w2 ⟨rfl, rfl⟩
      go_wp2_with fail
      refine (CircleList_impl n _ _).mono ?_
      rintro e w3 ⟨v3, rfl, o3, b3⟩
      rw [HU.out] at o3
      have O3 := Lib.hid (OwnI.ints o3)
      have B3 := Lib.hid b3
      clear o3 b3
      go_wp2_with fail
      refine (same_true _ _ _ _ O3.out (OU.out.bl B3.out)).mono ?_
      rintro e w4 ⟨rfl, b4⟩
      have B4 := Lib.hid (bl_trans B3.out b4)
      clear b4
      go_wp2_with fail
      refine (Near_any 0 _ (by omega)).mono ?_
      rintro e w5 ⟨rfl, rfl⟩
      go_wp2_with fail
      refine (CircleRing_impl n _ _).mono ?_
      rintro e w5 ⟨v5, rfl, o5, b5⟩
      rw [HU.out] at o5
      have O5 := Lib.hid (OwnI.ints o5)
      have B5 := Lib.hid (bl_trans B4.out b5)
      clear o5 b5
      go_wp2_with fail
      refine (same_true _ _ _ _ O5.out (OU.out.bl B5.out)).mono ?_
      rintro e w6 ⟨rfl, b6⟩
      have B6 := Lib.hid (bl_trans B5.out b6)
      clear b6
      go_wp2_with fail
      refine (Near_any (-1) _ (by omega)).mono ?_
      rintro e w7 ⟨rfl, rfl⟩
      go_wp2_with fail
      refine (CircleList_impl n _ _).mono ?_
      rintro e w7 ⟨v7, rfl, o7, b7⟩
      rw [HD.out] at o7
      have O7 := Lib.hid (OwnI.ints o7)
      have B7 := Lib.hid (bl_trans B6.out b7)
      clear o7 b7
      go_wp2_with fail
      refine (same_true _ _ _ _ O7.out (OD.out.bl B7.out)).mono ?_
      rintro e w8 ⟨rfl, b8⟩
      have B8 := Lib.hid (bl_trans B7.out b8)
      clear b8
      go_wp2_with fail
      refine (Near_any (-1) _ (by omega)).mono ?_
      rintro e w9 ⟨rfl, rfl⟩
      go_wp2_with fail
      refine (CircleRing_impl n _ _).mono ?_
      rintro e w9 ⟨v9, rfl, o9, b9⟩
      rw [HD.out] at o9
      have O9 := Lib.hid (OwnI.ints o9)
      have B9 := Lib.hid (bl_trans B8.out b9)
      clear o9 b9
      go_wp2_with fail
      refine (same_true _ _ _ _ O9.out (OD.out.bl B9.out)).mono ?_
      rintro e w10 ⟨rfl, b10⟩
      have B10 := Lib.hid (bl_trans BW.out (bl_trans B9.out b10))
      clear b10
      go_wp2
      go_ret
      exact ⟨rfl, B10.out⟩

theorem own_one (w : World) (e : TypeId) (u : Value) : (w.alloc (.cells #[u] e)).ownsRow w.heap.size e 1 (.slice (some ⟨w.heap.size, 0, none⟩) 1 1) 1 [u] :=
  ⟨rfl, .inr ⟨w.heap.size, 1, #[u], rfl, Nat.le_refl _, heap_alloc_new w _, Nat.le_refl _, by unfold maxLen; omega, by simp, by simp⟩⟩

set_option maxHeartbeats 2000000 in
theorem circleRecurs_in (n k : Int) (w : World) : Calls Try.prog 12 #[.int .i64 n, .int .i64 k] w fun e w' => e = .returned (.bool true) ∧ Bl w w' := by
  have hN := ix_lt n (n := 200) (by omega)
  obtain ⟨i0, hi, hz0, hz1, hz2⟩ := info_parts intInfo
  go_enter Try.func12, Try.ntmps12
  go_wp2_with fail
  refine (At_ix n 200 _ (by omega) (by omega)).mono ?_
  rintro e w1 ⟨rfl, rfl⟩
  generalize ix n 200 = N at *
  have hNN : ix (N : Int) 200 = N := by unfold ix; rw [Int.emod_eq_of_lt (by omega) (by omega)]; omega
  have HNN := Lib.hid hNN
  clear hNN
  rcases Nat.eq_zero_or_pos N with h0 | h0
  · subst h0
    have hC : circleOf 0 k = [] := rfl
    have HC := Lib.hid hC
    clear hC
    go_wp2_with fail
    refine (CircleRing_impl _ k _).mono ?_
    rintro e w2 ⟨v2, rfl, o2, b2⟩
    rw [HC.out] at o2
    obtain ⟨A2, c2, rfl, _, _, _⟩ := own_open o2
    have B2 := Lib.hid b2
    clear o2 b2
    go_wp2
    go_ret
    exact ⟨rfl, B2.out⟩
  · have hn0 : ((N : Int) == 0) = false := by rw [beq_eq_false_iff_ne]; omega
    have hf := ix_lt (farOf k) h0
    go_wp2_with fail
    refine (Far_any k _).mono ?_
    rintro e w2 ⟨rfl, rfl⟩
    go_wp2_with fail
    refine (At_ix (farOf k) N _ h0 (by omega)).mono ?_
    rintro e w2 ⟨rfl, rfl⟩
    have hR : circleOf (N : Int) k = (ix (farOf k) N : Int) :: (circleOf (((N - 1 : Nat) : Int)) k).map (fun v => ((ix (farOf k) N : Int) + 1 + v) % (N : Int)) := by
      have h1 : ix (((N - 1 : Nat) : Int)) 200 = N - 1 := by unfold ix; rw [Int.emod_eq_of_lt (by omega) (by omega)]; omega
      unfold circleOf
      rw [HNN.out, h1]
      exact circle_recurs (farOf k) N h0
    have HR := Lib.hid hR
    clear hR
    have hlen : (circleOf (((N - 1 : Nat) : Int)) k).length = N - 1 := by
      rw [(circleOf_count _ k).1]; unfold ix; rw [Int.emod_eq_of_lt (by omega) (by omega)]; omega
    have hmem : ∀ v ∈ circleOf (((N - 1 : Nat) : Int)) k, 0 ≤ v ∧ v < (N : Int) := by
      intro v hv
      have h1 : ix (((N - 1 : Nat) : Int)) 200 = N - 1 := by unfold ix; rw [Int.emod_eq_of_lt (by omega) (by omega)]; omega
      unfold circleOf at hv
      rw [h1] at hv
      have := mem_circle _ _ _ hv
      omega
    have hN1 : (N : Int) - 1 = ((N - 1 : Nat) : Int) := by omega
    generalize hZ : circleOf (((N - 1 : Nat) : Int)) k = Z at *
    have HZ := Lib.hid hZ
    clear hZ
    generalize ix (farOf k) N = F at *
    have HLEN := Lib.hid hlen
    have HMEM := Lib.hid hmem
    clear hlen hmem
    go_wp2_with fail
    refine (CircleRing_impl _ k _).mono ?_
    rintro e w3 ⟨v3, rfl, o3, b3⟩
    have o3' : OwnI w3 (w2.alloc (.cells #[.int .i64 F] 3)).heap.size v3 Z := by rw [← HZ.out]; exact o3
    obtain ⟨A3, c3, rfl, hc3, hm3, _⟩ := own_open o3'
    have O3 := Lib.hid o3'
    have B3 := Lib.hid (bl_trans (bl_alloc (bl_refl w2) (.cells #[.int .i64 F] 3)) b3)
    have OW : Hid (OwnI w3 w2.heap.size (.slice (some ⟨w2.heap.size, 0, none⟩) 1 1) [(F : Int)]) := own_bl (own_one w2 3 (.int .i64 F)) b3
    rw [HLEN.out] at hc3 ⊢
    have O3 : Hid (w3.ownsRow (w2.heap.size + 1) 3 1 (.slice A3 (N - 1) c3) Z.length (Z.map (Value.int .i64))) := by
      have := O3.out
      rw [World.size_alloc] at this
      have e := HLEN.out
      unfold OwnI at this
      rw [e] at this ⊢
      exact this
    clear o3 b3 o3'
    unfold maxLen at hm3
    go_wp2
    go_loopw [6, 8, 29] (fun wv _ i wr => ∃ j : Nat, j ≤ N - 1 ∧ i = .int .i64 j ∧ OwnI wr w2.heap.size wv ((F : Int) :: (Z.take j).map (fun v => ((F : Int) + 1 + v) % (N : Int))) ∧ OwnI wr (w2.heap.size + 1) (.slice A3 (N - 1) c3) Z ∧ (∀ g, (Value.slice A3 (N - 1) c3).ownBlock = some g → ¬ wv.ownBlock = some g) ∧ Bl w2 wr) (fun _ _ i _ => N - (intOf i).toNat)
    case atStart => exact ⟨0, Nat.zero_le _, rfl, OW.out, O3.out, fun g hg h => by (have := (own_lt O3.out g hg).1; simp [Value.ownBlock] at h; omega), B3.out⟩
    case round =>
      obtain ⟨j, hj, rfl, hown, hz, hsep, hbl⟩ := hrel
      have HO := Lib.hid hown
      have HB := Lib.hid hbl
      have HOZ := Lib.hid hz
      have HSEP := Lib.hid hsep
      clear hown hbl hz hsep
      have HLL : Hid (((F : Int) :: (Z.take j).map (fun v => ((F : Int) + 1 + v) % (N : Int))).length = j + 1) := by
        show _ = _
        rw [List.length_cons, List.length_map, List.length_take, HLEN.out]; omega
      by_cases hlt : j < N - 1
      · obtain ⟨_, _, e0, _, _, hv⟩ := (OwnI.ints HOZ.out).open
        injection e0 with e1 e2 e3
        subst e1 e3
        obtain ⟨b, off, rfl, hc⟩ := hv j (by rw [HLEN.out]; exact hlt)
        have r1 := hc
        have hzz := HMEM.out _ (List.getElem_mem (l := Z) (n := j) (by rw [HLEN.out]; exact hlt))
        have HT := Lib.hid (List.take_succ_eq_append_getElem (l := Z) (i := j) (by rw [HLEN.out]; exact hlt))
        generalize Z[j] = z at *
        obtain ⟨hz1', hz2'⟩ := hzz
        clear hv hc e2
        go_wp2_with (at_builtin; go_must (refine wpList_push wr rfl (.tmp 33) (.tmp 40) _ rfl w2.heap.size 3 i0 _ 8 Try.underlying23 hi hz0 hz1 hz2 rfl u6 _ _ rfl HO.out (.int .i64 (((F : Int) + 1 + z) % (N : Int))) rfl rfl rfl (by rw [HLL.out]; omega) (by rw [HLL.out]; omega) HB.out.size ?_); intro v4 w4 hown4 hchg4 hloc4)
        have HO4 := Lib.hid hown4
        have HB4 := Lib.hid (bl_own HB.out HO.out hchg4)
        have HZ4 := Lib.hid (own_chg HOZ.out hchg4 HSEP.out)
        have HS4 : Hid (∀ g, (Value.slice (some ⟨b, off, none⟩) (N - 1) c3).ownBlock = some g → ¬ v4.ownBlock = some g) := fun g hg h => by
          rcases hloc4 g h with h1 | h1
          · exact HSEP.out g hg h1
          · have := (own_lt HOZ.out g hg).2; omega
        clear hown4 hchg4 hloc4
        go_roundw
        case rel => exact ⟨j + 1, by omega, by go_num, by rw [HT.out, List.map_append, ← List.cons_append]; exact OwnI.snoc HO4.out, HZ4.out, HS4.out, HB4.out⟩
        case measure => simp [intOf]; omega
      · obtain rfl : j = N - 1 := by omega
        rw [show Z.take (N - 1) = Z from List.take_of_length_le (by rw [HLEN.out]; exact Nat.le_refl _), ← HR.out] at HO
        have OX := Lib.hid (OwnI.ints HO.out)
        have BX := HB
        clear HO HLL HOZ HSEP
        go_wp2_with fail
        refine (CircleRing_impl _ k _).mono ?_
        rintro e w5 ⟨v5, rfl, o5, b5⟩
        have O5 := Lib.hid (OwnI.ints o5)
        have B5 := Lib.hid b5
        clear o5 b5
        go_wp2_with fail
        refine (same_true _ _ _ _ O5.out (OX.out.bl B5.out)).mono ?_
        rintro e w6 ⟨rfl, b6⟩
        have B6 := Lib.hid (bl_trans B5.out b6)
        clear b6
        go_wp2_with fail
        refine (CircleList_impl _ k _).mono ?_
        rintro e w7 ⟨v7, rfl, o7, b7⟩
        have O7 := Lib.hid (OwnI.ints o7)
        have B7 := Lib.hid (bl_trans B6.out b7)
        clear o7 b7
        go_wp2_with fail
        refine (same_true _ _ _ _ O7.out (OX.out.bl B7.out)).mono ?_
        rintro e w8 ⟨rfl, b8⟩
        have B8 := Lib.hid (bl_trans BX.out (bl_trans B7.out b8))
        clear b8
        go_wp2
        go_ret
        exact ⟨rfl, B8.out⟩

end Go.Proofs.Ytoodmppijlfaoaa
