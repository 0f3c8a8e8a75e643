/- FnDealBoth and FnDealHands return true: the walks of the laws. -/
import Derived.Test.YthomhekbikpcfaaDealRing
import Derived.Test.YthomhekbikpcfaaOrder
namespace Go.Proofs.Ythomhekbikpcfaa
open Go.RowKit

set_option maxHeartbeats 1000000 in
theorem sameAll_true (v u : Value) (rows : List (List Int)) (w : World) (hv : Rowss w v rows) (hu : Rowss w u rows) :
    Calls Try.prog 49 #[v, u] w fun e w' => e = .returned (.bool true) ∧ Bl w w' := by
  obtain ⟨A, c, rfl, hc, hm, hv⟩ := hv.open
  obtain ⟨B, d, rfl, hd, hm2, hu⟩ := hu.open
  have HV := Lib.hid hv
  have HU := Lib.hid hu
  clear hv hu
  unfold maxLen at hm hm2
  go_enter Try.func49, Try.ntmps49
  go_wp2
  go_loopw [5, 13] (fun _ i wr => ∃ k : Nat, k ≤ rows.length ∧ i = .int .i64 k ∧ Bl w wr) (fun _ i _ => rows.length - (intOf i).toNat)
  case atStart => exact ⟨0, Nat.zero_le _, rfl, bl_refl _⟩
  case round =>
    obtain ⟨k, hk, rfl, hbl⟩ := hrel
    have HB := Lib.hid hbl
    clear hbl
    by_cases hlt : k < rows.length
    · obtain ⟨b, off, u1, rfl, hc1, hi1⟩ := HV.out k hlt
      obtain ⟨b2, off2, u2, rfl, hc2, hi2⟩ := HU.out k hlt
      have r1 := (HB.out.cell (World.block_lt_of_cell? _ _ hc1)).trans hc1
      have r2 := (HB.out.cell (World.block_lt_of_cell? _ _ hc2)).trans hc2
      have HI1 := Lib.hid (hi1.bl HB.out)
      have HI2 := Lib.hid (hi2.bl HB.out)
      obtain ⟨n1, A1, c1, hv1⟩ := ints_val hi1
      obtain ⟨n2, A2, c2, hv2⟩ := ints_val hi2
      subst hv1 hv2
      clear hc1 hc2 hi1 hi2
      go_wp2
      refine region_tail 8 (by kernel_rfl) (by kernel_rfl) ?_
      simp only [List.take_succ_cons, List.take_zero, List.drop_succ_cons, List.drop_zero]
      repeat still_step
      refine wpStill_nil ?_
      go_wp2_with fail
      refine (same_true _ _ _ _ (HI1.out.bl (bl_drew (bl_refl _))) (HI2.out.bl (bl_drew (bl_refl _)))).mono ?_
      rintro e w3 ⟨rfl, b3⟩
      have B3 := Lib.hid (bl_trans HB.out (bl_trans (bl_drew (bl_refl _)) b3))
      clear b3
      go_wp2
      go_roundw
      case rel => exact ⟨k + 1, by omega, by go_num, B3.out⟩
      case measure => simp [intOf]; omega
    · go_wp2
      go_ret
      exact ⟨rfl, HB.out⟩

set_option maxHeartbeats 1000000 in
theorem dealBoth_any (k : Int) (u : Value) (xs : List Int) (w : World) (hu : Ints w u xs) (hl : xs.length * 8 ≤ 140737488351232) :
    Calls Try.prog 14 #[u, .int .i64 k] w fun e w' => e = .returned (.bool true) ∧ Bl w w' := by
  have HU := Lib.hid hu
  clear hu
  have hh := handsOf_bd k
  obtain ⟨hh1, hh2⟩ := hh
  have HL : Hid ((dealOf xs k).length = handsOf k) := deal_len _ _
  go_enter Try.func14, Try.ntmps14
  go_wp2_with fail
  refine (DealList_impl u xs k _ HU.out (by omega)).mono ?_
  rintro e w1 ⟨v1, us1, rfl, o1, b1⟩
  have O1 := Lib.hid (OwnSS.rowss o1)
  have B1 := Lib.hid b1
  obtain ⟨A1, c1, hv1, hc1, hm1, _⟩ := own_open o1.own
  rw [HL.out] at hv1 hc1
  subst hv1
  unfold maxLen at hm1
  clear o1 b1
  go_wp2_with fail
  refine (Hands_any k _).mono ?_
  rintro e w2 ⟨rfl, rfl⟩
  generalize handsOf k = H at *
  go_wp2_with fail
  refine (DealRing_impl u xs k _ (HU.out.bl B1.out) (by omega)).mono ?_
  rintro e w3 ⟨v3, us3, rfl, o3, b3⟩
  have O3 := Lib.hid (OwnSS.rowss o3)
  have B3 := Lib.hid b3
  clear o3 b3
  go_wp2_with fail
  refine (sameAll_true _ v3 _ _ (O1.out.bl B3.out) O3.out).mono ?_
  rintro e w4 ⟨rfl, b4⟩
  have B4 := Lib.hid (bl_trans B1.out (bl_trans B3.out b4))
  clear b4
  go_wp2
  go_ret
  exact ⟨rfl, B4.out⟩

theorem Rowss.val {w : World} {v : Value} {rows : List (List Int)} (h : Rowss w v rows) : ∃ n A c, v = Value.slice A n c := by
  obtain ⟨A, c, h, _⟩ := h.open; exact ⟨_, A, c, h⟩

set_option maxHeartbeats 2000000 in
theorem dealHands_any (k : Int) (u : Value) (xs : List Int) (w : World) (hu : Ints w u xs) (hl : xs.length * 8 ≤ 140737488351232) :
    Calls Try.prog 12 #[u, .int .i64 k] w fun e w' => e = .returned (.bool true) ∧ Bl w w' := by
  have HU := Lib.hid hu
  obtain ⟨A0, c0, rfl, hc0, hm0, _⟩ := hu.open
  unfold maxLen at hm0
  clear hu
  have hh := handsOf_bd k
  obtain ⟨hh1, hh2⟩ := hh
  have HL : Hid ((dealOf xs k).length = handsOf k) := deal_len _ _
  have HRW : Hid (∀ r, (hr : r < handsOf k) → ∃ row, (dealOf xs k)[r]? = some row ∧ row.length = xs.length / handsOf k + if r < xs.length % handsOf k then 1 else 0) := fun r hr =>
    ⟨_, List.getElem?_eq_getElem (by show r < (deal _ _).length; rw [deal_len]; exact hr), deal_row _ hh1 xs r hr⟩
  have HSM : Hid (sumLen (dealOf xs k) = xs.length) := dealOf_sum xs k
  go_enter Try.func12, Try.ntmps12
  go_wp2_with fail
  refine (DealRing_impl _ xs k _ HU.out (by omega)).mono ?_
  rintro e w1 ⟨v1, us1, rfl, o1, b1⟩
  have O1 := Lib.hid (OwnSS.rowss o1)
  have B1 := Lib.hid b1
  obtain ⟨A1, c1, hv1, hc1, hm1, _⟩ := own_open o1.own
  rw [HL.out] at hv1 hc1
  subst hv1
  unfold maxLen at hm1
  clear o1 b1
  go_wp2_with fail
  refine (Hands_any k _).mono ?_
  rintro e w2 ⟨rfl, rfl⟩
  generalize dealOf xs k = R at *
  generalize handsOf k = H at *
  obtain ⟨A', c', e0, _, _, hv⟩ := O1.out.open
  rw [HL.out] at e0
  injection e0 with e1 e2 e3
  subst e1 e3
  have HV := Lib.hid hv
  clear hv e2
  go_wp2
  go_loopw [6, 7, 8, 19] (fun a _ _ i wr => ∃ t : Nat, t ≤ H ∧ i = .int .i64 t ∧ a = .int .i64 (sumLen (R.take t) : Nat) ∧ ∃ n, wr = w1.drewN n) (fun _ _ _ i _ => H - (intOf i).toNat)
  case atStart => exact ⟨0, Nat.zero_le _, rfl, rfl, 0, rfl⟩
  case round =>
    obtain ⟨t, ht, rfl, rfl, n, rfl⟩ := hrel
    by_cases hlt : t < H
    · have hcast : ((H : Int) - 1) = ((H - 1 : Nat) : Int) := by omega
      have htR : t < R.length := by rw [HL.out]; exact hlt
      have hHR : H - 1 < R.length := by rw [HL.out]; omega
      obtain ⟨b, off, u1, rfl, r1, hi1⟩ := HV.out t htR
      obtain ⟨b2, off2, u2, hb2, r2, hi2⟩ := HV.out (H - 1) hHR
      injection hb2 with hb2
      injection hb2 with hb3 hb4
      subst hb3 hb4
      obtain ⟨A1', cc1, hv1, hq1, hw1, hx1⟩ := hi1.open
      obtain ⟨A2', cc2, hv2, hq2, hw2, hx2⟩ := hi2.open
      clear hx1 hx2
      subst hv1 hv2
      unfold maxLen at hw1 hw2
      have HSS := Lib.hid (sumLen_take R t htR)
      have hbig : R[H - 1].length ≤ xs.length := by rw [← HSM.out]; exact le_sum (List.mem_map.2 ⟨_, List.getElem_mem hHR, rfl⟩)
      have hxl : xs.length ≤ 17592186043904 := by omega
      have hsle := sumLen_take_le R (t + 1)
      rw [sumLen_take R t htR, HSM.out] at hsle
      obtain ⟨row1, hr1, hl1⟩ := HRW.out t hlt
      obtain ⟨row2, hr2, hl2⟩ := HRW.out (H - 1) (by omega)
      rw [List.getElem?_eq_getElem htR] at hr1
      rw [List.getElem?_eq_getElem hHR] at hr2
      obtain rfl := Option.some.inj hr1
      obtain rfl := Option.some.inj hr2
      have hlast : R[t].length ≤ R[H - 1].length + 1 := by
        rw [hl1, hl2]
        split <;> split <;> omega
      clear hr1 hr2 hi1 hi2
      rcases Nat.eq_zero_or_pos t with h0 | h0
      · subst h0
        simp only [Nat.add_zero] at r1
        clear hl1 hl2
        have hz : sumLen ([] : List (List Int)) = 0 := rfl
        rw [List.take_zero, hz] at hsle
        rw [List.take_zero, hz]
        generalize R[0].length = l1 at *
        generalize R[H - 1].length = l2 at *
        go_wp2
        go_roundw
        case rel => exact ⟨1, by omega, by go_num, by (have h9 := HSS.out; rw [List.take_zero, Nat.zero_add, hz] at h9; rw [h9]; go_num), _, rfl⟩
        case measure => simp [intOf]; omega
      · obtain ⟨p, rfl⟩ : ∃ p, t = p + 1 := ⟨t - 1, by omega⟩
        have hpR : p < R.length := by omega
        obtain ⟨b3, off3, u3, hb3, r3, hi3⟩ := HV.out p hpR
        injection hb3 with hb3
        injection hb3 with hb4 hb5
        subst hb4 hb5
        obtain ⟨A3', cc3, hv3, hq3, hw3, hx3⟩ := hi3.open
        clear hx3
        subst hv3
        unfold maxLen at hw3
        obtain ⟨row3, hr3, hl3⟩ := HRW.out p (by omega)
        rw [List.getElem?_eq_getElem hpR] at hr3
        obtain rfl := Option.some.inj hr3
        have hprev : R[p + 1].length ≤ R[p].length := by
          rw [hl1, hl3]
          split <;> split <;> omega
        clear hr3 hi3 hl1 hl2 hl3
        generalize R[p + 1].length = l1 at *
        generalize R[H - 1].length = l2 at *
        generalize R[p].length = l3 at *
        go_wp2
        go_roundw
        case rel => exact ⟨p + 2, by omega, by go_num, by rw [HSS.out]; go_num, _, rfl⟩
        case measure => simp [intOf]; omega
    · obtain rfl : t = H := by omega
      rw [List.take_of_length_le (by rw [HL.out]; exact Nat.le_refl _), HSM.out]
      go_wp2
      go_ret
      exact ⟨rfl, bl_drewN B1.out _⟩

end Go.Proofs.Ythomhekbikpcfaa
