/- FnExactSpliceRing returns true: the walk of the law. -/
import Derived.Test.YtebkmegkdcnfaaaSpliceSpec2
import Derived.Test.YtebkmegkdcnfaaaSpliceRing
import Derived.Test.YtebkmegkdcnfaaaIntS
namespace Go.Proofs.Ytebkmegkdcnfaaa
open Go.RowKit

set_option maxRecDepth 100000 in
set_option maxHeartbeats 400000 in
theorem exactSpliceRing_out (a1 a2 : Int) (u : Value) (xs : List Int) (w : World) (hu : Ints w u xs) (hl : 1048576 < xs.length) :
    Calls Try.prog 8 #[u, .int .i64 a1, .int .i64 a2] w fun e w' => e = .returned (.bool true) ∧ Bl w w' := by
  obtain ⟨A, c, rfl, hc, hm, _⟩ := hu.open
  unfold maxLen at hm
  go_enter Try.func8, Try.ntmps8
  go_wp2
  go_ret
  exact ⟨rfl, bl_refl _⟩

set_option maxRecDepth 100000 in
set_option maxHeartbeats 4000000 in
theorem exactSpliceRing_in (a1 a2 : Int) (u : Value) (xs : List Int) (w : World) (hu : Ints w u xs) (hl : xs.length ≤ 1048576) :
    Calls Try.prog 8 #[u, .int .i64 a1, .int .i64 a2] w fun e w' => e = .returned (.bool true) ∧ Bl w w' := by
  have hx0 := leftOf_le xs a1 a2
  have hx1 := takenOf_le xs a1 a2
  obtain ⟨A, c, hA, hc, hm, _⟩ := hu.open
  unfold maxLen at hm
  subst hA
  have HU := Lib.hid hu
  clear hu
  go_enter Try.func8, Try.ntmps8
  have HB := Lib.hid (bl_refl w)
  go_wp2_with fail
  refine (toIntS_any (.slice A xs.length c) xs _ (HU.out.bl HB.out) hl).mono ?_
  rintro e w1 ⟨vt, rfl, o1, b1⟩
  have OT := Lib.hid (own_base o1 HB.out.size)
  replace HB := Lib.hid (bl_trans HB.out b1)
  clear o1 b1
  go_wp2_with fail
  refine (SpliceRing_spec vt xs a1 a2 _ (Sl.of_own OT.out) (by omega)).mono ?_
  rintro e w1 ⟨vw, vz, rfl, o1, o2, s1, b1⟩
  have ZOTOW := Lib.hid (sep_of (fun g hg => (own_lt OT.out g hg).2) (fun g hg => (own_lt o1 g hg).1))
  have ZOTOZ := Lib.hid (sep_of (fun g hg => (own_lt OT.out g hg).2) (fun g hg => (own_lt o2 g hg).1))
  have ZOWOZ := Lib.hid s1
  replace OT := Lib.hid (own_bl OT.out b1)
  have OW := Lib.hid (own_base o1 HB.out.size)
  have OZ := Lib.hid (own_base o2 HB.out.size)
  replace HB := Lib.hid (bl_trans HB.out b1)
  clear o1 o2 s1 b1
  clear OT
  go_wp2_with fail
  refine (toIntS_any (.slice A xs.length c) xs _ (HU.out.bl HB.out) hl).mono ?_
  rintro e w1 ⟨vx, rfl, o1, b1⟩
  have ZOWOX := Lib.hid (sep_of (fun g hg => (own_lt OW.out g hg).2) (fun g hg => (own_lt o1 g hg).1))
  have ZOZOX := Lib.hid (sep_of (fun g hg => (own_lt OZ.out g hg).2) (fun g hg => (own_lt o1 g hg).1))
  replace OW := Lib.hid (own_bl OW.out b1)
  replace OZ := Lib.hid (own_bl OZ.out b1)
  have OX := Lib.hid (own_base o1 HB.out.size)
  replace HB := Lib.hid (bl_trans HB.out b1)
  clear o1 b1
  go_wp2_with fail
  refine (SpliceRing_impl vx xs a1 a2 _ (Sl.of_own OX.out) (by omega)).mono ?_
  rintro e w1 ⟨vg, vq, rfl, o1, o2, s1, b1⟩
  have ZOWOG := Lib.hid (sep_of (fun g hg => (own_lt OW.out g hg).2) (fun g hg => (own_lt o1 g hg).1))
  have ZOWOQ := Lib.hid (sep_of (fun g hg => (own_lt OW.out g hg).2) (fun g hg => (own_lt o2 g hg).1))
  have ZOZOG := Lib.hid (sep_of (fun g hg => (own_lt OZ.out g hg).2) (fun g hg => (own_lt o1 g hg).1))
  have ZOZOQ := Lib.hid (sep_of (fun g hg => (own_lt OZ.out g hg).2) (fun g hg => (own_lt o2 g hg).1))
  have ZOXOG := Lib.hid (sep_of (fun g hg => (own_lt OX.out g hg).2) (fun g hg => (own_lt o1 g hg).1))
  have ZOXOQ := Lib.hid (sep_of (fun g hg => (own_lt OX.out g hg).2) (fun g hg => (own_lt o2 g hg).1))
  have ZOGOQ := Lib.hid s1
  replace OW := Lib.hid (own_bl OW.out b1)
  replace OZ := Lib.hid (own_bl OZ.out b1)
  replace OX := Lib.hid (own_bl OX.out b1)
  have OG := Lib.hid (own_base o1 HB.out.size)
  have OQ := Lib.hid (own_base o2 HB.out.size)
  replace HB := Lib.hid (bl_trans HB.out b1)
  clear o1 o2 s1 b1
  go_wp2_with fail
  refine (eqIntS_true vg vw _ _ (OwnI.ints OG.out) (OwnI.ints OW.out)).mono ?_
  rintro e w1 ⟨rfl, b1⟩
  replace OW := Lib.hid (own_bl OW.out b1)
  replace OZ := Lib.hid (own_bl OZ.out b1)
  replace OX := Lib.hid (own_bl OX.out b1)
  replace OG := Lib.hid (own_bl OG.out b1)
  replace OQ := Lib.hid (own_bl OQ.out b1)
  replace HB := Lib.hid (bl_trans HB.out b1)
  clear b1
  go_wp2_with fail
  refine (eqIntS_true vq vz _ _ (OwnI.ints OQ.out) (OwnI.ints OZ.out)).mono ?_
  rintro e w1 ⟨rfl, b1⟩
  replace OW := Lib.hid (own_bl OW.out b1)
  replace OZ := Lib.hid (own_bl OZ.out b1)
  replace OX := Lib.hid (own_bl OX.out b1)
  replace OG := Lib.hid (own_bl OG.out b1)
  replace OQ := Lib.hid (own_bl OQ.out b1)
  replace HB := Lib.hid (bl_trans HB.out b1)
  clear b1
  go_wp2_with fail
  refine (toIntS_any (.slice A xs.length c) xs _ (HU.out.bl HB.out) hl).mono ?_
  rintro e w1 ⟨vt, rfl, o1, b1⟩
  have ZOWOT := Lib.hid (sep_of (fun g hg => (own_lt OW.out g hg).2) (fun g hg => (own_lt o1 g hg).1))
  have ZOZOT := Lib.hid (sep_of (fun g hg => (own_lt OZ.out g hg).2) (fun g hg => (own_lt o1 g hg).1))
  have ZOXOT := Lib.hid (sep_of (fun g hg => (own_lt OX.out g hg).2) (fun g hg => (own_lt o1 g hg).1))
  have ZOGOT := Lib.hid (sep_of (fun g hg => (own_lt OG.out g hg).2) (fun g hg => (own_lt o1 g hg).1))
  have ZOQOT := Lib.hid (sep_of (fun g hg => (own_lt OQ.out g hg).2) (fun g hg => (own_lt o1 g hg).1))
  replace OW := Lib.hid (own_bl OW.out b1)
  replace OZ := Lib.hid (own_bl OZ.out b1)
  replace OX := Lib.hid (own_bl OX.out b1)
  replace OG := Lib.hid (own_bl OG.out b1)
  replace OQ := Lib.hid (own_bl OQ.out b1)
  have OT := Lib.hid (own_base o1 HB.out.size)
  replace HB := Lib.hid (bl_trans HB.out b1)
  clear o1 b1
  go_wp2_with fail
  refine (eqIntS_true vx vt xs _ (Sl.of_own OX.out) (Sl.of_own OT.out)).mono ?_
  rintro e w1 ⟨rfl, b1⟩
  replace OW := Lib.hid (own_bl OW.out b1)
  replace OZ := Lib.hid (own_bl OZ.out b1)
  replace OX := Lib.hid (own_bl OX.out b1)
  replace OG := Lib.hid (own_bl OG.out b1)
  replace OQ := Lib.hid (own_bl OQ.out b1)
  replace OT := Lib.hid (own_bl OT.out b1)
  replace HB := Lib.hid (bl_trans HB.out b1)
  clear b1
  clear OT
  go_wp2_with fail
  refine (markIntS_own vx _ xs 1 _ OX.out (by omega) (by omega)).mono ?_
  rintro e w1 ⟨rfl, o1, c1⟩
  replace OW := Lib.hid (own_chg OW.out c1 ZOWOX.out)
  replace OZ := Lib.hid (own_chg OZ.out c1 ZOZOX.out)
  replace OG := Lib.hid (own_chg OG.out c1 (fun g hg hg' => ZOXOG.out g hg' hg))
  replace OQ := Lib.hid (own_chg OQ.out c1 (fun g hg hg' => ZOXOQ.out g hg' hg))
  replace HB := Lib.hid (bl_chg HB.out c1 (fun g hg => (own_lt OX.out g hg).1))
  replace OX := Lib.hid o1
  clear o1 c1
  clear OX
  go_wp2_with fail
  refine (eqIntS_true vg vw _ _ (OwnI.ints OG.out) (OwnI.ints OW.out)).mono ?_
  rintro e w1 ⟨rfl, b1⟩
  replace OW := Lib.hid (own_bl OW.out b1)
  replace OZ := Lib.hid (own_bl OZ.out b1)
  replace OG := Lib.hid (own_bl OG.out b1)
  replace OQ := Lib.hid (own_bl OQ.out b1)
  replace HB := Lib.hid (bl_trans HB.out b1)
  clear b1
  go_wp2_with fail
  refine (eqIntS_true vq vz _ _ (OwnI.ints OQ.out) (OwnI.ints OZ.out)).mono ?_
  rintro e w1 ⟨rfl, b1⟩
  replace OW := Lib.hid (own_bl OW.out b1)
  replace OZ := Lib.hid (own_bl OZ.out b1)
  replace OG := Lib.hid (own_bl OG.out b1)
  replace OQ := Lib.hid (own_bl OQ.out b1)
  replace HB := Lib.hid (bl_trans HB.out b1)
  clear b1
  go_wp2_with fail
  refine (markIntS_own vg _ _ 1 _ OG.out (by omega) (by omega)).mono ?_
  rintro e w1 ⟨rfl, o1, c1⟩
  replace OW := Lib.hid (own_chg OW.out c1 ZOWOG.out)
  replace OZ := Lib.hid (own_chg OZ.out c1 ZOZOG.out)
  replace OQ := Lib.hid (own_chg OQ.out c1 (fun g hg hg' => ZOGOQ.out g hg' hg))
  replace HB := Lib.hid (bl_chg HB.out c1 (fun g hg => (own_lt OG.out g hg).1))
  replace OG := Lib.hid o1
  clear o1 c1
  go_wp2_with fail
  refine (markIntS_own vq _ _ _ _ OQ.out (by omega) (by omega)).mono ?_
  rintro e w1 ⟨rfl, o1, c1⟩
  replace OW := Lib.hid (own_chg OW.out c1 ZOWOQ.out)
  replace OZ := Lib.hid (own_chg OZ.out c1 ZOZOQ.out)
  replace OG := Lib.hid (own_chg OG.out c1 ZOGOQ.out)
  replace HB := Lib.hid (bl_chg HB.out c1 (fun g hg => (own_lt OQ.out g hg).1))
  replace OQ := Lib.hid o1
  clear o1 c1
  go_wp2_with fail
  refine (heldIntS_marks vg 1 _ _ (OwnI.ints OG.out) (by omega) (by omega)).mono ?_
  rintro e w1 ⟨rfl, rfl⟩
  go_wp2_with fail
  refine (heldIntS_marks vq _ _ _ (OwnI.ints OQ.out) (by omega) (by omega)).mono ?_
  rintro e w1 ⟨rfl, rfl⟩
  go_wp2_with fail
  refine (toIntS_any (.slice A xs.length c) xs _ (HU.out.bl HB.out) hl).mono ?_
  rintro e w1 ⟨vt, rfl, o1, b1⟩
  have ZOWOT := Lib.hid (sep_of (fun g hg => (own_lt OW.out g hg).2) (fun g hg => (own_lt o1 g hg).1))
  have ZOZOT := Lib.hid (sep_of (fun g hg => (own_lt OZ.out g hg).2) (fun g hg => (own_lt o1 g hg).1))
  have ZOGOT := Lib.hid (sep_of (fun g hg => (own_lt OG.out g hg).2) (fun g hg => (own_lt o1 g hg).1))
  have ZOQOT := Lib.hid (sep_of (fun g hg => (own_lt OQ.out g hg).2) (fun g hg => (own_lt o1 g hg).1))
  replace OW := Lib.hid (own_bl OW.out b1)
  replace OZ := Lib.hid (own_bl OZ.out b1)
  replace OG := Lib.hid (own_bl OG.out b1)
  replace OQ := Lib.hid (own_bl OQ.out b1)
  have OT := Lib.hid (own_base o1 HB.out.size)
  replace HB := Lib.hid (bl_trans HB.out b1)
  clear o1 b1
  go_wp2_with fail
  refine (SpliceRing_impl vt xs a1 a2 _ (Sl.of_own OT.out) (by omega)).mono ?_
  rintro e w1 ⟨vh, vk, rfl, o1, o2, s1, b1⟩
  have ZOWOH := Lib.hid (sep_of (fun g hg => (own_lt OW.out g hg).2) (fun g hg => (own_lt o1 g hg).1))
  have ZOWOK := Lib.hid (sep_of (fun g hg => (own_lt OW.out g hg).2) (fun g hg => (own_lt o2 g hg).1))
  have ZOZOH := Lib.hid (sep_of (fun g hg => (own_lt OZ.out g hg).2) (fun g hg => (own_lt o1 g hg).1))
  have ZOZOK := Lib.hid (sep_of (fun g hg => (own_lt OZ.out g hg).2) (fun g hg => (own_lt o2 g hg).1))
  have ZOGOH := Lib.hid (sep_of (fun g hg => (own_lt OG.out g hg).2) (fun g hg => (own_lt o1 g hg).1))
  have ZOGOK := Lib.hid (sep_of (fun g hg => (own_lt OG.out g hg).2) (fun g hg => (own_lt o2 g hg).1))
  have ZOQOH := Lib.hid (sep_of (fun g hg => (own_lt OQ.out g hg).2) (fun g hg => (own_lt o1 g hg).1))
  have ZOQOK := Lib.hid (sep_of (fun g hg => (own_lt OQ.out g hg).2) (fun g hg => (own_lt o2 g hg).1))
  have ZOTOH := Lib.hid (sep_of (fun g hg => (own_lt OT.out g hg).2) (fun g hg => (own_lt o1 g hg).1))
  have ZOTOK := Lib.hid (sep_of (fun g hg => (own_lt OT.out g hg).2) (fun g hg => (own_lt o2 g hg).1))
  have ZOHOK := Lib.hid s1
  replace OW := Lib.hid (own_bl OW.out b1)
  replace OZ := Lib.hid (own_bl OZ.out b1)
  replace OG := Lib.hid (own_bl OG.out b1)
  replace OQ := Lib.hid (own_bl OQ.out b1)
  replace OT := Lib.hid (own_bl OT.out b1)
  have OH := Lib.hid (own_base o1 HB.out.size)
  have OK := Lib.hid (own_base o2 HB.out.size)
  replace HB := Lib.hid (bl_trans HB.out b1)
  clear o1 o2 s1 b1
  clear OT
  go_wp2_with fail
  refine (eqIntS_true vh vw _ _ (OwnI.ints OH.out) (OwnI.ints OW.out)).mono ?_
  rintro e w1 ⟨rfl, b1⟩
  replace OW := Lib.hid (own_bl OW.out b1)
  replace OZ := Lib.hid (own_bl OZ.out b1)
  replace OG := Lib.hid (own_bl OG.out b1)
  replace OQ := Lib.hid (own_bl OQ.out b1)
  replace OH := Lib.hid (own_bl OH.out b1)
  replace OK := Lib.hid (own_bl OK.out b1)
  replace HB := Lib.hid (bl_trans HB.out b1)
  clear b1
  go_wp2_with fail
  refine (eqIntS_true vk vz _ _ (OwnI.ints OK.out) (OwnI.ints OZ.out)).mono ?_
  rintro e w1 ⟨rfl, b1⟩
  replace OW := Lib.hid (own_bl OW.out b1)
  replace OZ := Lib.hid (own_bl OZ.out b1)
  replace OG := Lib.hid (own_bl OG.out b1)
  replace OQ := Lib.hid (own_bl OQ.out b1)
  replace OH := Lib.hid (own_bl OH.out b1)
  replace OK := Lib.hid (own_bl OK.out b1)
  replace HB := Lib.hid (bl_trans HB.out b1)
  clear b1
  go_wp2_with fail
  refine (heldIntS_marks vg 1 _ _ (OwnI.ints OG.out) (by omega) (by omega)).mono ?_
  rintro e w1 ⟨rfl, rfl⟩
  go_wp2_with fail
  refine (heldIntS_marks vq _ _ _ (OwnI.ints OQ.out) (by omega) (by omega)).mono ?_
  rintro e w1 ⟨rfl, rfl⟩
  go_wp2
  go_ret
  exact ⟨rfl, HB.out⟩

theorem exactSpliceRing_any (a1 a2 : Int) (u : Value) (xs : List Int) (w : World) (hu : Ints w u xs) :
    Calls Try.prog 8 #[u, .int .i64 a1, .int .i64 a2] w fun e w' => e = .returned (.bool true) ∧ Bl w w' := by
  by_cases hl : xs.length ≤ 1048576
  · exact exactSpliceRing_in a1 a2 u xs w hu hl
  · exact exactSpliceRing_out a1 a2 u xs w hu (by omega)

end Go.Proofs.Ytebkmegkdcnfaaa
