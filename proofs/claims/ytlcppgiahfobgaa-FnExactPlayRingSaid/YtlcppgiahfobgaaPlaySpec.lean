/- The walk of PlayList's reference. -/
import Derived.Test.YtlcppgiahfobgaaPlayStep
import Derived.Test.YtlcppgiahfobgaaSeq
namespace Go.Proofs.Ytlcppgiahfobgaa
open Go.RowKit

/-- place of a number that is there. -/
theorem place_mem (u : Value) (xs : List Int) (w : World) (hu : Ints w u xs) {x : Int} (hx : x ∈ xs) :
    Calls Try.prog 54 #[u, .int .i64 x] w fun e w' => e = .returned (.int .i64 (xs.idxOf x : Nat)) ∧ w = w' := by
  have hl := List.idxOf_lt_length_of_mem hx
  refine place_at u xs w hu (xs.idxOf x) hl (List.getElem_idxOf hl) (fun j hj e => ?_)
  have h1 := List.not_of_lt_findIdx (p := (· == x)) hj
  simp at h1
  exact h1 e

theorem At_four (a : Int) (w : World) : Calls Try.prog 25 #[.int .i64 a, .int .i64 4] w fun e w' => e = .returned (.int .i64 (ix a 4)) ∧ w' = w := At_ix a 4 w (by omega) (by omega)

set_option maxHeartbeats 2000000 in
theorem PlayList_spec (a : Int) (v : Value) (ms : List Mv) (w : World) (hv : Mvs w v ms) : Calls Try.prog 77 #[.int .i64 a, v] w (NewInts w (playOf a ms)) := by
  obtain ⟨A, c, rfl, hc, hm, hv⟩ := hv.open
  have hn := ix_lt a (n := 200) (by omega)
  have HV := Lib.hid hv
  clear hv
  unfold maxLen at hm
  go_enter Try.func77, Try.ntmps77
  go_wp2_with fail
  refine (First_any a _).mono ?_
  rintro e w1 ⟨v1, rfl, o1, b1⟩
  have o1' : OwnI w1 w.heap.size v1 (nums (ix a 200)) := o1
  have HP : Hid (playOf a ms = play (ix a 200) ms) := rfl
  generalize ix a 200 = N at *
  obtain ⟨A1, c1, rfl, hc1, hm1, _⟩ := own_open o1'
  have O1 := Lib.hid o1'
  have B1 := Lib.hid b1
  clear o1 b1 o1'
  rw [nums_len] at *
  go_wp2
  go_loopw [5, 7, 8, 9, 10, 17] (fun xv _ _ _ _ i wr => ∃ k : Nat, k ≤ ms.length ∧ i = .int .i64 k ∧ OwnI wr w.heap.size xv ((ms.take k).foldl (playStep N) (nums N)) ∧ Ord N ((ms.take k).foldl (playStep N) (nums N)) ∧ Bl w wr) (fun _ _ _ _ _ i _ => ms.length - (intOf i).toNat)
  case atStart =>
    refine ⟨0, Nat.zero_le _, rfl, ?_, nums_ord N, B1.out⟩
    have := O1.out
    unfold OwnI at *
    rw [nums_len] at this
    show w1.ownsRow _ _ _ _ (nums N).length _
    rw [nums_len]; exact this
  case round =>
    obtain ⟨k, hk, rfl, hown, hord, hbl⟩ := hrel
    have HOR := Lib.hid hord
    clear hord
    have HO := Lib.hid hown
    have HB := Lib.hid hbl
    clear hown hbl
    by_cases hlt : k < ms.length
    · obtain ⟨b, off, rfl, hc1, hc2, hc3⟩ := HV.out k hlt
      have r1 := (HB.out.cell (World.block_lt_of_cell? _ _ hc1)).trans hc1
      have r2 := (HB.out.cell (World.block_lt_of_cell? _ _ hc2)).trans hc2
      have r3 := (HB.out.cell (World.block_lt_of_cell? _ _ hc3)).trans hc3
      clear hc1 hc2 hc3
      have HF := Lib.hid (fold_take (n := N) ms (nums N) k hlt)
      generalize (ms.take k).foldl (playStep N) (nums N) = xs at *
      generalize ms[k] = m at *
      obtain ⟨op, em, mm⟩ := m
      rcases Nat.eq_zero_or_pos N with hN0 | hN0
      · subst hN0
        have hx : xs = [] := List.eq_nil_of_length_eq_zero HOR.out.len
        subst hx
        go_wp2
        go_ret
        refine ⟨_, rfl, ?_, bl_alloc HB.out _⟩
        rw [HP.out]
        exact own_bl HO.out (bl_alloc (bl_refl _) _)
      · have hn0 : ((N : Int) == 0) = false := by rw [beq_eq_false_iff_ne]; omega
        have l1 := ix_lt em hN0
        have l2 := ix_lt mm hN0
        have l4 := ix_lt op (n := 4) (by omega)
        have HQ4 := Lib.hid (fun w => At_four op w)
        have HQE := Lib.hid (fun w => At_ix em N w hN0 (by omega))
        have HQM := Lib.hid (fun w => At_ix mm N w hN0 (by omega))
        have HS0 := Lib.hid (fun h => step_front (n := N) xs (op, em, mm) h)
        have HS1 := Lib.hid (fun h => step_back (n := N) xs (op, em, mm) h)
        have HS2 := Lib.hid (fun h h' => step_after (n := N) xs (op, em, mm) h h')
        have HS3 := Lib.hid (fun h h' => step_before (n := N) xs (op, em, mm) h h')
        have HSN := Lib.hid (fun h h' => step_none (n := N) xs (op, em, mm) h h')
        have HOS := Lib.hid (HOR.out.step hN0 (op, em, mm))
        simp only at HS0 HS1 HS2 HS3 HSN
        generalize playStep N xs (op, em, mm) = ys at *
        generalize ix op 4 = Q at *
        generalize ix em N = E at *
        generalize ix mm N = M at *
        rcases (by omega : Q = 0 ∨ Q = 1 ∨ Q = 2 ∨ Q = 3) with hq | hq | hq | hq
        · have HE := Lib.hid (HS0.out hq)
          subst hq
          go_wp2
          go_quiet (first
            | (go_at_call_of 25 op; exact Calls.quiet_of_same (HQ4.out _))
            | (go_at_call_of 25 em; exact Calls.quiet_of_same (HQE.out _))
            | (go_at_call_of 25 mm; exact Calls.quiet_of_same (HQM.out _)))
          go_wp2_with fail
          obtain ⟨W, hW⟩ : ∃ W, W = (wr.alloc (.cells #[.int .i64 op, .int .i64 em, .int .i64 mm] 82)).drewN nq := ⟨_, rfl⟩
          rw [← hW]
          have hbW : Bl wr W := by rw [hW]; exact bl_drewN (bl_alloc (bl_refl _) _) _
          have BW := Lib.hid hbW
          clear hW hbW r1 r2 r3
          refine (place_mem _ xs _ ((OwnI.ints HO.out).bl BW.out) (HOR.out.has l1)).mono ?_
          rintro e w5 ⟨rfl, rfl⟩
          go_wp2_with fail
          refine (without_any _ xs _ _ ((OwnI.ints HO.out).bl BW.out) (List.idxOf_lt_length_of_mem (HOR.out.has l1)) (by rw [HOR.out.len]; omega)).mono ?_
          rintro e w6 ⟨v6, rfl, o6, b6⟩
          have O6 := Lib.hid o6
          have B6 := Lib.hid (bl_trans BW.out b6)
          have HY : Hid ((xs.eraseIdx (xs.idxOf (E : Int))).length = N - 1) := by
            show (xs.eraseIdx (xs.idxOf (E : Int))).length = N - 1
            rw [List.length_eraseIdx, if_pos (List.idxOf_lt_length_of_mem (HOR.out.has l1)), HOR.out.len]
          clear o6 b6
          generalize xs.eraseIdx (xs.idxOf (E : Int)) = y at *
          go_wp2_with fail
          refine (with_any _ y 0 _ _ (OwnI.ints O6.out) (by omega) (by rw [HY.out]; omega)).mono ?_
          rintro e w8 ⟨v8, rfl, o8, b8⟩
          rw [← HE.out] at o8
          have O8 := Lib.hid (own_base o8 (Nat.le_trans HB.out.size B6.out.size))
          have B8 := Lib.hid (bl_trans HB.out (bl_trans B6.out b8))
          clear o8 b8
          go_wp2
          go_roundw
          case rel => exact ⟨k + 1, by omega, by go_num, by rw [HF.out]; exact O8.out, by rw [HF.out]; exact HOS.out, B8.out⟩
          case measure => simp [intOf]; omega
        · have HE := Lib.hid (HS1.out hq)
          subst hq
          go_wp2
          go_quiet (first
            | (go_at_call_of 25 op; exact Calls.quiet_of_same (HQ4.out _))
            | (go_at_call_of 25 em; exact Calls.quiet_of_same (HQE.out _))
            | (go_at_call_of 25 mm; exact Calls.quiet_of_same (HQM.out _)))
          go_wp2_with fail
          obtain ⟨W, hW⟩ : ∃ W, W = (wr.alloc (.cells #[.int .i64 op, .int .i64 em, .int .i64 mm] 82)).drewN nq := ⟨_, rfl⟩
          rw [← hW]
          have hbW : Bl wr W := by rw [hW]; exact bl_drewN (bl_alloc (bl_refl _) _) _
          have BW := Lib.hid hbW
          clear hW hbW r1 r2 r3
          refine (place_mem _ xs _ ((OwnI.ints HO.out).bl BW.out) (HOR.out.has l1)).mono ?_
          rintro e w5 ⟨rfl, rfl⟩
          go_wp2_with fail
          refine (without_any _ xs _ _ ((OwnI.ints HO.out).bl BW.out) (List.idxOf_lt_length_of_mem (HOR.out.has l1)) (by rw [HOR.out.len]; omega)).mono ?_
          rintro e w6 ⟨v6, rfl, o6, b6⟩
          have O6 := Lib.hid o6
          have B6 := Lib.hid (bl_trans BW.out b6)
          have HY : Hid ((xs.eraseIdx (xs.idxOf (E : Int))).length = N - 1) := by
            show (xs.eraseIdx (xs.idxOf (E : Int))).length = N - 1
            rw [List.length_eraseIdx, if_pos (List.idxOf_lt_length_of_mem (HOR.out.has l1)), HOR.out.len]
          clear o6 b6
          generalize xs.eraseIdx (xs.idxOf (E : Int)) = y at *
          obtain ⟨A6, c6, hv6, hc6, hm6, _⟩ := own_open O6.out
          unfold maxLen at hm6
          subst hv6
          rw [HY.out] at O6 HE ⊢
          rw [HY.out] at hc6
          go_wp2_with fail
          refine (with_any _ y (N - 1) _ _ (OwnI.ints (by unfold OwnI; rw [HY.out]; exact O6.out)) (by rw [HY.out]; omega) (by rw [HY.out]; omega)).mono ?_
          rintro e w8 ⟨v8, rfl, o8, b8⟩
          rw [← HE.out] at o8
          have O8 := Lib.hid (own_base o8 (Nat.le_trans HB.out.size B6.out.size))
          have B8 := Lib.hid (bl_trans HB.out (bl_trans B6.out b8))
          clear o8 b8
          go_wp2
          go_roundw
          case rel => exact ⟨k + 1, by omega, by go_num, by rw [HF.out]; exact O8.out, by rw [HF.out]; exact HOS.out, B8.out⟩
          case measure => simp [intOf]; omega
        · by_cases hem : E = M
          · have HE := Lib.hid (HSN.out (by omega) hem)
            subst hq hem
            go_wp2
            go_quiet (first
              | (go_at_call_of 25 op; exact Calls.quiet_of_same (HQ4.out _))
              | (go_at_call_of 25 em; exact Calls.quiet_of_same (HQE.out _))
              | (go_at_call_of 25 mm; exact Calls.quiet_of_same (HQM.out _)))
            go_wp2
            go_roundw
            case rel => exact ⟨k + 1, by omega, by go_num, by rw [HF.out, HE.out]; exact own_bl HO.out (bl_drewN (bl_alloc (bl_refl _) _) _), by rw [HF.out]; exact HOS.out, bl_trans HB.out (bl_drewN (bl_alloc (bl_refl _) _) _)⟩
            case measure => simp [intOf]; omega
          · have HE := Lib.hid (HS2.out hq hem)
            have hmem : (M : Int) ∈ xs.eraseIdx (xs.idxOf (E : Int)) := mem_erase HOR.out l1 l2 hem
            have HMM := Lib.hid hmem
            have hb : ((E : Int) == (M : Int)) = false := by rw [beq_eq_false_iff_ne]; omega
            clear hmem
            subst hq
            go_wp2
            go_quiet (first
              | (go_at_call_of 25 op; exact Calls.quiet_of_same (HQ4.out _))
              | (go_at_call_of 25 em; exact Calls.quiet_of_same (HQE.out _))
              | (go_at_call_of 25 mm; exact Calls.quiet_of_same (HQM.out _)))
            go_wp2_with fail
            obtain ⟨W, hW⟩ : ∃ W, W = (wr.alloc (.cells #[.int .i64 op, .int .i64 em, .int .i64 mm] 82)).drewN nq := ⟨_, rfl⟩
            rw [← hW]
            have hbW : Bl wr W := by rw [hW]; exact bl_drewN (bl_alloc (bl_refl _) _) _
            have BW := Lib.hid hbW
            clear hW hbW r1 r2 r3
            refine (place_mem _ xs _ ((OwnI.ints HO.out).bl BW.out) (HOR.out.has l1)).mono ?_
            rintro e w5 ⟨rfl, rfl⟩
            go_wp2_with fail
            refine (without_any _ xs _ _ ((OwnI.ints HO.out).bl BW.out) (List.idxOf_lt_length_of_mem (HOR.out.has l1)) (by rw [HOR.out.len]; omega)).mono ?_
            rintro e w6 ⟨v6, rfl, o6, b6⟩
            have O6 := Lib.hid o6
            have B6 := Lib.hid (bl_trans BW.out b6)
            have HY : Hid ((xs.eraseIdx (xs.idxOf (E : Int))).length = N - 1) := by
              show (xs.eraseIdx (xs.idxOf (E : Int))).length = N - 1
              rw [List.length_eraseIdx, if_pos (List.idxOf_lt_length_of_mem (HOR.out.has l1)), HOR.out.len]
            clear o6 b6
            generalize xs.eraseIdx (xs.idxOf (E : Int)) = y at *
            have hix := List.idxOf_lt_length_of_mem HMM.out
            rw [HY.out] at hix
            go_wp2_with fail
            refine (place_mem _ y _ (OwnI.ints O6.out) HMM.out).mono ?_
            rintro e w7 ⟨rfl, rfl⟩
            go_wp2_with fail
            refine (with_any _ y (y.idxOf (M : Int) + 1) _ _ (OwnI.ints O6.out) (by rw [HY.out]; omega) (by rw [HY.out]; omega)).mono ?_
            rintro e w8 ⟨v8, rfl, o8, b8⟩
            rw [← HE.out] at o8
            have O8 := Lib.hid (own_base o8 (Nat.le_trans HB.out.size B6.out.size))
            have B8 := Lib.hid (bl_trans HB.out (bl_trans B6.out b8))
            clear o8 b8
            go_wp2
            go_roundw
            case rel => exact ⟨k + 1, by omega, by go_num, by rw [HF.out]; exact O8.out, by rw [HF.out]; exact HOS.out, B8.out⟩
            case measure => simp [intOf]; omega
        · by_cases hem : E = M
          · have HE := Lib.hid (HSN.out (by omega) hem)
            subst hq hem
            go_wp2
            go_quiet (first
              | (go_at_call_of 25 op; exact Calls.quiet_of_same (HQ4.out _))
              | (go_at_call_of 25 em; exact Calls.quiet_of_same (HQE.out _))
              | (go_at_call_of 25 mm; exact Calls.quiet_of_same (HQM.out _)))
            go_wp2
            go_roundw
            case rel => exact ⟨k + 1, by omega, by go_num, by rw [HF.out, HE.out]; exact own_bl HO.out (bl_drewN (bl_alloc (bl_refl _) _) _), by rw [HF.out]; exact HOS.out, bl_trans HB.out (bl_drewN (bl_alloc (bl_refl _) _) _)⟩
            case measure => simp [intOf]; omega
          · have HE := Lib.hid (HS3.out hq hem)
            have hmem : (M : Int) ∈ xs.eraseIdx (xs.idxOf (E : Int)) := mem_erase HOR.out l1 l2 hem
            have HMM := Lib.hid hmem
            have hb : ((E : Int) == (M : Int)) = false := by rw [beq_eq_false_iff_ne]; omega
            clear hmem
            subst hq
            go_wp2
            go_quiet (first
              | (go_at_call_of 25 op; exact Calls.quiet_of_same (HQ4.out _))
              | (go_at_call_of 25 em; exact Calls.quiet_of_same (HQE.out _))
              | (go_at_call_of 25 mm; exact Calls.quiet_of_same (HQM.out _)))
            go_wp2_with fail
            obtain ⟨W, hW⟩ : ∃ W, W = (wr.alloc (.cells #[.int .i64 op, .int .i64 em, .int .i64 mm] 82)).drewN nq := ⟨_, rfl⟩
            rw [← hW]
            have hbW : Bl wr W := by rw [hW]; exact bl_drewN (bl_alloc (bl_refl _) _) _
            have BW := Lib.hid hbW
            clear hW hbW r1 r2 r3
            refine (place_mem _ xs _ ((OwnI.ints HO.out).bl BW.out) (HOR.out.has l1)).mono ?_
            rintro e w5 ⟨rfl, rfl⟩
            go_wp2_with fail
            refine (without_any _ xs _ _ ((OwnI.ints HO.out).bl BW.out) (List.idxOf_lt_length_of_mem (HOR.out.has l1)) (by rw [HOR.out.len]; omega)).mono ?_
            rintro e w6 ⟨v6, rfl, o6, b6⟩
            have O6 := Lib.hid o6
            have B6 := Lib.hid (bl_trans BW.out b6)
            have HY : Hid ((xs.eraseIdx (xs.idxOf (E : Int))).length = N - 1) := by
              show (xs.eraseIdx (xs.idxOf (E : Int))).length = N - 1
              rw [List.length_eraseIdx, if_pos (List.idxOf_lt_length_of_mem (HOR.out.has l1)), HOR.out.len]
            clear o6 b6
            generalize xs.eraseIdx (xs.idxOf (E : Int)) = y at *
            have hix := List.idxOf_lt_length_of_mem HMM.out
            rw [HY.out] at hix
            go_wp2_with fail
            refine (place_mem _ y _ (OwnI.ints O6.out) HMM.out).mono ?_
            rintro e w7 ⟨rfl, rfl⟩
            go_wp2_with fail
            refine (with_any _ y (y.idxOf (M : Int)) _ _ (OwnI.ints O6.out) (by rw [HY.out]; omega) (by rw [HY.out]; omega)).mono ?_
            rintro e w8 ⟨v8, rfl, o8, b8⟩
            rw [← HE.out] at o8
            have O8 := Lib.hid (own_base o8 (Nat.le_trans HB.out.size B6.out.size))
            have B8 := Lib.hid (bl_trans HB.out (bl_trans B6.out b8))
            clear o8 b8
            go_wp2
            go_roundw
            case rel => exact ⟨k + 1, by omega, by go_num, by rw [HF.out]; exact O8.out, by rw [HF.out]; exact HOS.out, B8.out⟩
            case measure => simp [intOf]; omega
    · obtain rfl : k = ms.length := by omega
      rw [List.take_length] at HO HOR
      have HPP : Hid (playOf a ms = ms.foldl (playStep N) (nums N)) := by
        show _ = _
        rw [HP.out]
        unfold play
        by_cases h0 : N = 0
        · rw [if_pos h0]
          have := HOR.out.len
          rw [h0] at this
          subst h0
          exact (List.eq_nil_of_length_eq_zero this).symm
        · rw [if_neg h0]
      go_wp2
      go_ret
      exact ⟨_, rfl, by rw [HPP.out]; exact HO.out, HB.out⟩

set_option maxHeartbeats 400000 in
theorem PlayRing_spec (a : Int) (v : Value) (ms : List Mv) (w : World) (hv : Mvs w v ms) : Calls Try.prog 48 #[.int .i64 a, v] w (NewInts w (playOf a ms)) := by
  have HV := Lib.hid hv
  clear hv
  go_enter Try.func48, Try.ntmps48
  go_wp2_with fail
  refine (PlayList_spec a v ms _ HV.out).mono ?_
  rintro e w1 ⟨v1, rfl, o1, b1⟩
  have O1 := Lib.hid o1
  have B1 := Lib.hid b1
  clear o1 b1
  go_wp2
  go_ret
  exact ⟨_, rfl, O1.out, B1.out⟩

end Go.Proofs.Ytlcppgiahfobgaa
