/- FnPlayRelabel returns true: the walk of the law. -/
import Derived.Test.YthgghafndabpfaaPlayLaws
import Derived.Test.YthgghafndabpfaaPlayRelabel
import Derived.Test.YthgghafndabpfaaRenamed
namespace Go.Proofs.Ythgghafndabpfaa
open Go.RowKit

set_option maxRecDepth 100000 in
set_option maxHeartbeats 2000000 in
theorem playRelabel_any (a : Int) (u1 u2 : Value) (ms more : List Mv) (w : World) (hu1 : Mvs w u1 ms) (hu2 : Mvs w u2 more) (hl1 : ms.length ≤ 1048576) (hl2 : more.length ≤ 1048576) :
    Calls Try.prog 4 #[.int .i64 a, u1, u2] w fun e w' => e = .returned (.bool true) ∧ Bl w w' := by
  have HU := Lib.hid hu1
  have HV := Lib.hid hu2
  clear hu1 hu2
  obtain ⟨i0, hi, hz0, hz1, hz2⟩ := info_parts moveParts
  have hN := ix_lt a (n := 200) (by omega)
  have HL := Lib.hid (playOf_len_eq a ms)
  have HC := Lib.hid (playOf_count a ms)
  obtain ⟨f, g, hx, hf, hg, hgf, hfg⟩ := ord_tab (play_ord (ix a 200) ms)
  have HX : Hid (playOf a ms = tab f (ix a 200)) := hx
  have HPB : Hid (playOf a (ms ++ more) = (playOf a (renMs (ix a 200) g more)).map (atO (tab f (ix a 200)))) := (play_relabel ms more hx hg hgf hfg).trans (by rw [hx]; rfl)
  have HY : Hid (∀ y ∈ playOf a (renMs (ix a 200) g more), 0 ≤ y ∧ y < (tab f (ix a 200)).length) := fun y hy => by rw [tab_len]; exact ((play_ord _ _).mem y).1 hy
  have HYL : Hid ((playOf a (renMs (ix a 200) g more)).length ≤ 1048576) := by
    have h := playOf_len_eq a (renMs (ix a 200) g more)
    show _ ≤ _
    omega
  have HF := Lib.hid hf
  have HG := Lib.hid hg
  have HGF := Lib.hid hgf
  have HFG := Lib.hid hfg
  clear hx hf hg hgf hfg
  go_enter Try.func4, Try.ntmps4
  go_wp2_with fail
  refine (PlayList_impl a u1 ms _ HU.out).mono ?_
  rintro e w1 ⟨v1, rfl, o1, b1⟩
  have O1 := Lib.hid (OwnI.ints o1)
  have B1 := Lib.hid b1
  clear o1 b1
  go_wp2_with fail
  refine (isOrder_true v1 _ a _ O1.out HL.out HC.out).mono ?_
  rintro e w2 ⟨rfl, rfl⟩
  have OX : Hid (Ints w1 v1 (tab f (ix a 200))) := by rw [← HX.out]; exact O1.out
  clear O1 HX HL HC
  generalize ix a 200 = N at *
  go_wp2_with fail
  refine (inverse_any v1 N f g _ OX.out (by omega) HF.out HG.out HGF.out HFG.out).mono ?_
  rintro e w3 ⟨v3, rfl, o3, b3⟩
  have O3 := Lib.hid (OwnI.ints o3)
  have B3 := Lib.hid (bl_trans B1.out b3)
  have OX3 := Lib.hid (OX.out.bl b3)
  clear o3 b3 OX
  go_wp2_with fail
  refine (renamed_any u2 v3 more N g _ (HV.out.bl B3.out) O3.out hl2 hN).mono ?_
  rintro e w4 ⟨v4, rfl, o4, b4⟩
  have O4 := Lib.hid (OwnM.mvs o4)
  have B4 := Lib.hid (bl_trans B3.out b4)
  have OX4 := Lib.hid (OX3.out.bl b4)
  clear o4 b4 OX3 O3
  have HU4 := Lib.hid (HU.out.bl B4.out)
  have HV4 := Lib.hid (HV.out.bl B4.out)
  go_wp2_with (at_builtin; first
    | ((refine wpList_cat (w4.alloc (.cells #[] 27)) rfl (.tmp 21) (.tmp 22) _ rfl w4.heap.size 27 i0 _ 3 24 Try.underlying22 hi hz0 hz1 hz2 rfl (by decide) _ 0 [] rfl (own_empty w4 _ _) u1 ms.length (mcells ms) rfl (HU4.out.bl (bl_alloc (bl_refl _) _)) (one_moves _) (by unfold maxLen; omega) (by omega) (by simp) ?_); intro v5 w5 hown5 hchg5 hloc5; have B5 := Lib.hid (bl_own (bl_alloc (bl_refl w4) _) (own_empty w4 27 3) hchg5); have O5 := Lib.hid hown5; clear hown5 hchg5 hloc5)
    | (go_must (refine wpList_cat w5 rfl (.tmp 23) (.tmp 24) _ rfl w4.heap.size 27 i0 _ 3 24 Try.underlying22 hi hz0 hz1 hz2 rfl (by decide) _ _ _ rfl O5.out u2 more.length (mcells more) rfl (HV4.out.bl B5.out) (one_moves _) (by unfold maxLen; omega) (by omega) B5.out.size ?_); intro v6 w6 hown6 hchg6 hloc6; have B6 := Lib.hid (bl_own B5.out O5.out hchg6); have O6 := Lib.hid hown6; clear hown6 hchg6 hloc6))
  have HM6 : Hid (Mvs w6 v6 (ms ++ more)) := OwnM.mvs (OwnM.cat O6.out (by rw [mcells_append]; rfl) (by rw [List.length_append, Nat.zero_add]))
  have O4' := Lib.hid (O4.out.bl B6.out)
  have OX6 := Lib.hid (OX4.out.bl B6.out)
  have B0 := Lib.hid (bl_trans B4.out B6.out)
  clear O5 O6 O4 OX4 B5 B6 B4 B3 B1 HU4 HV4
  refine (PlayList_impl a v6 _ _ HM6.out).mono ?_
  rintro e w7 ⟨v7, rfl, o7, b7⟩
  rw [HPB.out] at o7
  have O7 := Lib.hid (OwnI.ints o7)
  have B7 := Lib.hid b7
  clear o7 b7
  go_wp2_with fail
  refine (PlayList_impl a v4 _ _ (O4'.out.bl B7.out)).mono ?_
  rintro e w8 ⟨v8, rfl, o8, b8⟩
  have O8 := Lib.hid (OwnI.ints o8)
  have B8 := Lib.hid (bl_trans B7.out b8)
  have O7' := Lib.hid (O7.out.bl b8)
  clear o8 b8
  go_wp2_with fail
  refine (through_any v1 v8 _ _ _ (OX6.out.bl B8.out) O8.out HY.out HYL.out).mono ?_
  rintro e w9 ⟨v9, rfl, o9, b9⟩
  have O9 := Lib.hid (OwnI.ints o9)
  have B9 := Lib.hid (bl_trans B8.out b9)
  have O7'' := Lib.hid (O7'.out.bl b9)
  clear o9 b9
  go_wp2_with fail
  refine (same_true _ _ _ _ O7''.out O9.out).mono ?_
  rintro e w10 ⟨rfl, b10⟩
  have B10 := Lib.hid (bl_trans B9.out b10)
  clear b10 O7 O7' O7'' O8 O9 B7 B8 B9
  go_wp2_with fail
  refine (PlayRing_impl a v6 _ _ (HM6.out.bl B10.out)).mono ?_
  rintro e w11 ⟨v11, rfl, o11, b11⟩
  rw [HPB.out] at o11
  have O11 := Lib.hid (OwnX.ints o11)
  have B11 := Lib.hid (bl_trans B10.out b11)
  clear o11 b11
  go_wp2_with fail
  refine (PlayRing_impl a v4 _ _ (O4'.out.bl B11.out)).mono ?_
  rintro e w12 ⟨v12, rfl, o12, b12⟩
  have O12 := Lib.hid (OwnX.ints o12)
  have B12 := Lib.hid (bl_trans B11.out b12)
  have O11' := Lib.hid (O11.out.bl b12)
  clear o12 b12
  go_wp2_with fail
  refine (through_any v1 v12 _ _ _ (OX6.out.bl B12.out) O12.out HY.out HYL.out).mono ?_
  rintro e w13 ⟨v13, rfl, o13, b13⟩
  have O13 := Lib.hid (OwnI.ints o13)
  have B13 := Lib.hid (bl_trans B12.out b13)
  have O11'' := Lib.hid (O11'.out.bl b13)
  clear o13 b13
  go_wp2_with fail
  refine (same_true _ _ _ _ O11''.out O13.out).mono ?_
  rintro e w14 ⟨rfl, b14⟩
  have B14 := Lib.hid (bl_trans B0.out (bl_trans B13.out b14))
  clear b14
  go_wp2
  go_ret
  exact ⟨rfl, B14.out⟩

end Go.Proofs.Ythgghafndabpfaa
