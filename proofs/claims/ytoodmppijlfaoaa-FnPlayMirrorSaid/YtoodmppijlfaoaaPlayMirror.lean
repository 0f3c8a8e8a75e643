/- FnPlayMirror returns true: the walk of the law. -/
import Derived.Test.YtoodmppijlfaoaaMirrored
namespace Go.Proofs.Ytoodmppijlfaoaa
open Go.RowKit

theorem mir_len (n : Nat) (x : List Int) : (mir n x).length = x.length := by simp [mir]
theorem mir_take (n : Nat) (x : List Int) (k : Nat) (hk : k < x.length) : (mir n x).take (k + 1) = (mir n x).take k ++ [(n : Int) - 1 - x[x.length - 1 - k]] := by
  rw [List.take_succ_eq_append_getElem (by rw [mir_len]; exact hk)]
  congr 2
  unfold mir
  rw [List.getElem_reverse, List.getElem_map]
  simp only [List.length_map]

set_option maxHeartbeats 2000000 in
theorem playMirror_any (a : Int) (u : Value) (ms : List Mv) (w : World) (hu : Mvs w u ms) (hl : ms.length * 24 ≤ 140737488351232) : Calls Try.prog 6 #[.int .i64 a, u] w fun e w' => e = .returned (.bool true) ∧ Bl w w' := by
  have HU := Lib.hid hu
  clear hu
  obtain ⟨i0, hi, hz0, hz1, hz2⟩ := info_parts intInfo
  have hN := ix_lt a (n := 200) (by omega)
  have HL := Lib.hid (playOf_len_eq a ms)
  have HC := Lib.hid (playOf_count a ms)
  have HPM : Hid (playOf a (mirMs (ix a 200) ms) = mir (ix a 200) (playOf a ms)) := play_mirror (ix a 200) ms
  have HMB : Hid (∀ v ∈ playOf a ms, 0 ≤ v ∧ v < (ix a 200 : Nat)) := fun v hv => ((play_ord (ix a 200) ms).mem v).1 hv
  go_enter Try.func6, Try.ntmps6
  go_wp2_with fail
  refine (PlayList_impl a u ms _ HU.out).mono ?_
  rintro e w1 ⟨v1, rfl, o1, b1⟩
  have O1 := Lib.hid (OwnI.ints o1)
  have B1 := Lib.hid b1
  obtain ⟨A1, c1, rfl, hc1, hm1, _⟩ := own_open o1
  unfold maxLen at hm1
  clear o1 b1
  generalize playOf a ms = xs at *
  go_wp2_with fail
  refine (isOrder_true _ _ a _ O1.out HL.out HC.out).mono ?_
  rintro e w2 ⟨rfl, rfl⟩
  generalize hNN : ix a 200 = N at *
  have O1' : Hid (Ints w1 (.slice A1 N c1) xs) := by rw [← HL.out]; exact O1.out
  rw [HL.out] at hc1 ⊢
  clear O1 hNN
  obtain ⟨A', c', e0, _, _, hv⟩ := O1'.out.open
  injection e0 with e1 e2 e3
  subst e1 e3
  have HV := Lib.hid hv
  clear hv e2
  go_wp2
  go_loopg [6, 7] (N + 1) (fun g dv i wr => ∃ k : Nat, (k ≤ N ∧ k + g = N + 1) ∧ i = .int .i64 ((N : Int) - 1 - k) ∧ OwnI wr w1.heap.size dv ((mir N xs).take k) ∧ Bl w1 wr)
  case atStart => exact ⟨0, by omega, by go_num, own_empty _ _ _, bl_alloc (bl_refl _) _⟩
  case round =>
    obtain ⟨k, hk, rfl, hown, hbl⟩ := hrel
    have HK := Lib.hid hk
    have HO := Lib.hid hown
    have HB := Lib.hid hbl
    clear hown hbl hk
    by_cases hlt : k < N
    · obtain ⟨m, hm⟩ : ∃ m : Nat, (N : Int) - 1 - k = m ∧ m = N - 1 - k := ⟨N - 1 - k, by omega, rfl⟩
      obtain ⟨hm, hm'⟩ := hm
      have hxl := HL.out
      have hmx : m < xs.length := by omega
      obtain ⟨b, off, rfl, hc⟩ := HV.out m hmx
      have r1 := (HB.out.cell (World.block_lt_of_cell? _ _ hc)).trans hc
      have HT : Hid ((mir N xs).take (k + 1) = (mir N xs).take k ++ [(N : Int) - 1 - xs[m]]) := by
        have e : xs.length - 1 - k = m := by omega
        have := mir_take N xs k (by omega)
        simp only [e] at this
        exact this
      have HLK : Hid (((mir N xs).take k).length = k) := by
        show ((mir N xs).take k).length = k
        rw [List.length_take, mir_len]; omega
      have hmN : m < N := by omega
      have hzb := HMB.out _ (List.getElem_mem hmx)
      obtain ⟨hzb1, hzb2⟩ := hzb
      generalize xs[m] = z at *
      clear hc hxl hmx
      rw [hm]
      have HM := Lib.hid hm
      have HM' := Lib.hid hm'
      clear hm hm'
      go_wp2_with (at_builtin; go_must (refine wpList_push wr rfl (.tmp 23) (.tmp 32) _ rfl w1.heap.size 3 i0 _ 8 Try.underlying23 hi hz0 hz1 hz2 rfl u6 _ _ rfl HO.out (.int .i64 ((N : Int) - 1 - z)) rfl rfl rfl (by rw [HLK.out]; omega) (by rw [HLK.out]; omega) HB.out.size ?_); intro v2 w2 hown1 hchg1 hloc1)
      have HO1 := Lib.hid hown1
      have HB1 := Lib.hid (bl_own HB.out HO.out hchg1)
      clear hown1 hchg1 hloc1
      go_roundg (N - k)
      case rel =>
        refine ⟨k + 1, by omega, ?_, by rw [HT.out]; exact OwnI.snoc HO1.out, HB1.out⟩
        have := HM.out
        go_num
      case measure => have := HK.out; omega
    · have hkk : k = N := by
        have := HK.out
        omega
      subst hkk
      have HTT : Hid ((mir k xs).take k = mir k xs) := List.take_of_length_le (by rw [mir_len, HL.out]; exact Nat.le_refl _)
      rw [HTT.out] at HO
      rw [show ((k : Int) - 1 - k) = -1 by omega]
      have OD := Lib.hid (OwnI.ints HO.out)
      have BW := Lib.hid (bl_trans B1.out HB.out)
      clear HO HTT O1'
      go_wp2_with fail
      refine (mirrored_any u ms k _ (HU.out.bl BW.out) hl hN).mono ?_
      rintro e w3 ⟨v3, rfl, o3, b3⟩
      have O3 := Lib.hid (OwnM.mvs o3)
      have B3 := Lib.hid b3
      clear o3 b3
      go_wp2_with fail
      refine (PlayList_impl a _ _ _ O3.out).mono ?_
      rintro e w4 ⟨v4, rfl, o4, b4⟩
      rw [HPM.out] at o4
      have O4 := Lib.hid (OwnI.ints o4)
      have B4 := Lib.hid (bl_trans B3.out b4)
      clear o4 b4
      go_wp2_with fail
      refine (same_true _ _ _ _ O4.out (OD.out.bl B4.out)).mono ?_
      rintro e w5 ⟨rfl, b5⟩
      have B5 := Lib.hid (bl_trans B4.out b5)
      clear b5
      go_wp2_with fail
      refine (mirrored_any u ms k _ (HU.out.bl (bl_trans BW.out B5.out)) hl hN).mono ?_
      rintro e w6 ⟨v6, rfl, o6, b6⟩
      have O6 := Lib.hid (OwnM.mvs o6)
      have B6 := Lib.hid (bl_trans B5.out b6)
      clear o6 b6
      go_wp2_with fail
      refine (PlayRing_impl a _ _ _ O6.out).mono ?_
      rintro e w7 ⟨v7, rfl, o7, b7⟩
      rw [HPM.out] at o7
      have O7 := Lib.hid (OwnX.ints o7)
      have B7 := Lib.hid (bl_trans B6.out b7)
      clear o7 b7
      go_wp2_with fail
      refine (same_true _ _ _ _ O7.out (OD.out.bl B7.out)).mono ?_
      rintro e w8 ⟨rfl, b8⟩
      have B8 := Lib.hid (bl_trans BW.out (bl_trans B7.out b8))
      clear b8
      go_wp2
      go_ret
      exact ⟨rfl, B8.out⟩

end Go.Proofs.Ytoodmppijlfaoaa
