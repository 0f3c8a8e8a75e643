/- FnPlayUndone returns true: the walk of the law. -/
import Derived.Test.YthgghafndabpfaaUndoLaw
namespace Go.Proofs.Ythgghafndabpfaa
open Go.RowKit

set_option maxRecDepth 100000 in
set_option maxHeartbeats 2000000 in
theorem playUndone_any (a : Int) (u : Value) (ms : List Mv) (w : World) (hu : Mvs w u ms) (hl : ms.length ≤ 1048576) :
    Calls Try.prog 3 #[.int .i64 a, u] w fun e w' => e = .returned (.bool true) ∧ Bl w w' := by
  obtain ⟨i0, hi, hz0, hz1, hz2⟩ := info_parts moveParts
  have HUU := Lib.hid hu
  obtain ⟨A, c, rfl, hc, hm, hv⟩ := hu.open
  have HU : Hid (∀ k, k ≤ ms.length → Mvs w (.slice A k c) (ms.take k)) := fun k hk => HUU.out.take hk
  have HV := Lib.hid hv
  clear hu hv
  unfold maxLen at hm
  have hN := ix_lt a (n := 200) (by omega)
  have HUL : Hid (playOf a (ms ++ undoMs (ix a 200) ms ms.length) = nums (ix a 200)) := undo_law (ix a 200) ms
  have HPO : Hid (∀ xs : List Mv, playOf a xs = play (ix a 200) xs) := fun _ => rfl
  obtain ⟨L, hL⟩ : ∃ L, ms.length = L := ⟨_, rfl⟩
  have HLN := Lib.hid hL
  rw [hL] at hc hl HUL HUU HU ⊢
  clear hL
  go_enter Try.func3, Try.ntmps3
  go_wp2
  go_loopg [5, 6, 7] (L + 1) (fun g bv i _ wr => ∃ j : Nat, (j ≤ L ∧ j + g = L + 1) ∧ i = .int .i64 ((L : Int) - 1 - j) ∧ OwnM wr w.heap.size bv (undoMs (ix a 200) ms j) ∧ Bl w wr)
  case atStart => exact ⟨0, by omega, by go_num, by rw [undoMs_zero]; exact own_empty _ _ _, bl_alloc (bl_refl _) _⟩
  case round =>
    obtain ⟨j, hj, rfl, hown, hbl⟩ := hrel
    have HJ := Lib.hid hj
    have HO := Lib.hid hown
    have HB := Lib.hid hbl
    clear hown hbl hj
    by_cases hlt : j < L
    · obtain ⟨m, hm1, hm2⟩ : ∃ m : Nat, (L : Int) - 1 - j = m ∧ m = L - 1 - j := ⟨L - 1 - j, by omega, rfl⟩
      have hmL : m < L := by omega
      have hml : m < ms.length := by have := HLN.out; omega
      obtain ⟨b, off, rfl, _, hc1, _⟩ := HV.out m hml
      have r1 := (HB.out.cell (World.block_lt_of_cell? _ _ hc1)).trans hc1
      have HT : Hid (undoMs (ix a 200) ms (j + 1) = if ix a 200 = 0 then undoMs (ix a 200) ms j else undoMs (ix a 200) ms j ++ [bkM (play (ix a 200) (ms.take m)) (ix ms[m].2.1 (ix a 200))]) :=
        undoMs_succ (ix a 200) ms hml (by have := HLN.out; omega)
      have HLJ := Lib.hid (undoMs_len (ix a 200) ms j)
      clear hc1
      rw [hm1]
      have HM := Lib.hid hm1
      have HM' := Lib.hid hm2
      clear hm1 hm2
      have HL1 := Lib.hid (playOf_len_eq a (ms.take m))
      have HC1 := Lib.hid (playOf_count a (ms.take m))
      have HOR : Hid (Ord (ix a 200) (playOf a (ms.take m))) := play_ord _ _
      have HXP : Hid (play (ix a 200) (ms.take m) = playOf a (ms.take m)) := rfl
      rw [HXP.out] at HT
      generalize ms[m].2.1 = em at *
      go_wp2_with fail
      refine (PlayList_impl a _ (ms.take m) _ ((HU.out m (by omega)).bl HB.out)).mono ?_
      rintro e w1 ⟨v1, rfl, o1, b1⟩
      have O1 := Lib.hid (OwnI.ints o1)
      have B1 := Lib.hid b1
      have r2 := (b1.cell (World.block_lt_of_cell? _ _ r1)).trans r1
      obtain ⟨A1, c1, rfl, hc1, hm1, _⟩ := own_open o1
      unfold maxLen at hm1
      clear o1 b1 r1
      generalize playOf a (ms.take m) = xs at *
      go_wp2_with fail
      refine (isOrder_true _ _ a _ O1.out HL1.out HC1.out).mono ?_
      rintro e w2 ⟨rfl, rfl⟩
      generalize hNN : ix a 200 = N at *
      have O1' : Hid (Ints w1 (.slice A1 N c1) xs) := by rw [← HL1.out]; exact O1.out
      rw [HL1.out] at hc1 ⊢
      clear O1
      have HOW := Lib.hid (own_bl HO.out B1.out)
      have HBW := Lib.hid (bl_trans HB.out B1.out)
      have hHN := Lib.hid hNN
      clear hNN
      rcases Nat.eq_zero_or_pos N with hN0 | hN0
      · subst hN0
        rw [if_pos rfl] at HT
        go_wp2
        go_roundg (L - j)
        case rel =>
          refine ⟨j + 1, by have := HJ.out; omega, ?_, by rw [HT.out]; exact HOW.out, HBW.out⟩
          have := HM.out
          go_num
        case measure => have := HJ.out; omega
      · have hN1 : (0 : Int) < (N : Int) := by omega
        rw [if_neg (by omega)] at HT
        have hE := ix_lt em hN0
        go_wp2_with fail
        refine (At_ix em N _ hN0 (by omega)).mono ?_
        rintro e w3 ⟨rfl, rfl⟩
        have HHE : Hid (((ix em N : Nat) : Int) ∈ xs) := HOR.out.has hE
        generalize ix em N = E at *
        go_wp2_with fail
        refine (where_any _ xs E _ O1'.out HOR.out.nodup HHE.out).mono ?_
        rintro e w4 ⟨rfl, b4⟩
        have B4 := Lib.hid b4
        clear b4
        have HO4 := Lib.hid (own_bl HOW.out B4.out)
        have HB4 := Lib.hid (bl_trans HBW.out B4.out)
        have HBK : Hid (bkM xs E = ((((backOf xs E).1 : Nat) : Int), (backOf xs E).2.1, (backOf xs E).2.2)) := rfl
        generalize backOf xs E = B at *
        obtain ⟨q, ee, mm⟩ := B
        simp only at *
        generalize bkM xs E = bk at *
        go_wp2_with (at_builtin; go_must (refine wpList_cat (w4.alloc (.cells #[.int .i64 q, .int .i64 ee, .int .i64 mm] 27)) rfl (.tmp 29) (.tmp 40) _ rfl w.heap.size 27 i0 _ 3 24 Try.underlying22 hi hz0 hz1 hz2 rfl (by decide) u5 _ _ rfl (HO4.out.alloc _) _ 1 (mcells [((q : Int), ee, mm)]) rfl (sl_move (World.cell?_alloc_new w4 _ _ 0) (World.cell?_alloc_new w4 _ _ 1) (World.cell?_alloc_new w4 _ _ 2)) (one_moves _) (by have := HLJ.out; have := HJ.out; unfold maxLen; omega) (by have := HLJ.out; have := HJ.out; omega) (Nat.le_trans HB4.out.size (by simp)) ?_); intro v5 w5 hown5 hchg5 hloc5)
        have HO5 : Hid (OwnM w5 w.heap.size v5 (undoMs N ms (j + 1))) := OwnM.cat hown5 (by rw [HT.out, mcells_append, HBK.out]) (by rw [HT.out, List.length_append]; rfl)
        have HB5 := Lib.hid (bl_own (bl_alloc HB4.out _) (HO4.out.alloc _) hchg5)
        clear hown5 hchg5 hloc5
        go_roundg (L - j)
        case rel =>
          refine ⟨j + 1, by have := HJ.out; omega, ?_, HO5.out, HB5.out⟩
          have := HM.out
          go_num
        case measure => have := HJ.out; omega
    · have hjL : j = L := by
        have := HJ.out
        omega
      subst hjL
      rw [show ((j : Int) - 1 - j) = -1 by omega]
      have HU' := Lib.hid (HUU.out.bl HB.out)
      have HV' := Lib.hid (OwnM.mvs HO.out)
      have HVL := Lib.hid (undoMs_len (ix a 200) ms j)
      have HLB := Lib.hid HB.out
      have HNX : Hid (nums (a % 200).toNat = nums (ix a 200)) := rfl
      clear HO HB HU HUU HV
      generalize ix a 200 = N at *
      generalize undoMs N ms j = bk at *
      go_wp2_with (at_builtin; first
        | ((refine wpList_cat (wr.alloc (.cells #[] 27)) rfl (.tmp 42) (.tmp 43) _ rfl wr.heap.size 27 i0 _ 3 24 Try.underlying22 hi hz0 hz1 hz2 rfl (by decide) _ 0 [] rfl (own_empty wr _ _) _ ms.length (mcells ms) rfl (HU'.out.bl (bl_alloc (bl_refl _) _)) (one_moves _) (by rw [HLN.out]; unfold maxLen; omega) (by rw [HLN.out]; omega) (by simp) ?_); intro v5 w5 hown5 hchg5 hloc5; have B5 := Lib.hid (bl_own (bl_alloc (bl_refl wr) _) (own_empty wr 27 3) hchg5); have O5 := Lib.hid hown5; clear hown5 hchg5 hloc5)
        | (go_must (refine wpList_cat w5 rfl (.tmp 44) (.tmp 45) _ rfl wr.heap.size 27 i0 _ 3 24 Try.underlying22 hi hz0 hz1 hz2 rfl (by decide) _ _ _ rfl O5.out u5 bk.length (mcells bk) rfl (HV'.out.bl B5.out) (one_moves _) (by have := HVL.out; rw [HLN.out]; unfold maxLen; omega) (by have := HVL.out; rw [HLN.out]; omega) B5.out.size ?_); intro v6 w6 hown6 hchg6 hloc6; have B6 := Lib.hid (bl_own B5.out O5.out hchg6); have O6 := Lib.hid hown6; clear hown6 hchg6 hloc6))
      have HM6 : Hid (Mvs w6 v6 (ms ++ bk)) := OwnM.mvs (OwnM.cat O6.out (by rw [mcells_append]; rfl) (by rw [List.length_append, Nat.zero_add]))
      have B0 := Lib.hid (bl_trans HLB.out B6.out)
      clear O5 O6 B5 B6 HLB HU' HV'
      refine (PlayList_impl a v6 _ _ HM6.out).mono ?_
      rintro e w7 ⟨v7, rfl, o7, b7⟩
      rw [HUL.out] at o7
      have O7 := Lib.hid (OwnI.ints o7)
      have B7 := Lib.hid b7
      clear o7 b7
      go_wp2_with fail
      refine (First_any a _).mono ?_
      rintro e w8 ⟨v8, rfl, o8, b8⟩
      rw [HNX.out] at o8
      have O8 := Lib.hid (OwnI.ints o8)
      have B8 := Lib.hid (bl_trans B7.out b8)
      have O7' := Lib.hid (O7.out.bl b8)
      clear o8 b8
      go_wp2_with fail
      refine (same_true _ _ _ _ O7'.out O8.out).mono ?_
      rintro e w9 ⟨rfl, b9⟩
      have B9 := Lib.hid (bl_trans B8.out b9)
      clear b9 O7 O7' O8 B7 B8
      go_wp2_with fail
      refine (PlayRing_impl a v6 _ _ (HM6.out.bl B9.out)).mono ?_
      rintro e w10 ⟨v10, rfl, o10, b10⟩
      rw [HUL.out] at o10
      have O10 := Lib.hid (OwnX.ints o10)
      have B10 := Lib.hid (bl_trans B9.out b10)
      clear o10 b10
      go_wp2_with fail
      refine (First_any a _).mono ?_
      rintro e w11 ⟨v11, rfl, o11, b11⟩
      rw [HNX.out] at o11
      have O11 := Lib.hid (OwnI.ints o11)
      have B11 := Lib.hid (bl_trans B10.out b11)
      have O10' := Lib.hid (O10.out.bl b11)
      clear o11 b11
      go_wp2_with fail
      refine (same_true _ _ _ _ O10'.out O11.out).mono ?_
      rintro e w12 ⟨rfl, b12⟩
      have B12 := Lib.hid (bl_trans B0.out (bl_trans B11.out b12))
      clear b12
      go_wp2
      go_ret
      exact ⟨rfl, B12.out⟩

end Go.Proofs.Ythgghafndabpfaa
