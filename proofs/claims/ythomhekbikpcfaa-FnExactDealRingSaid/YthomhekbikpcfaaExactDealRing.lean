/- FnExactDealRing returns true: the walk of the law. -/
import Derived.Test.YthomhekbikpcfaaDealRing
import Derived.Test.YthomhekbikpcfaaRowsS2
namespace Go.Proofs.Ythomhekbikpcfaa
open Go.RowKit

set_option maxHeartbeats 400000 in
theorem exactDealRing_out (a1 : Int) (u : Value) (xs : List Int) (w : World) (hu : Ints w u xs) (hl : 1048576 < xs.length) :
    Calls Try.prog 11 #[u, .int .i64 a1] w fun e w' => e = .returned (.bool true) ∧ Bl w w' := by
  obtain ⟨A, c, rfl, hc, hm, _⟩ := hu.open
  unfold maxLen at hm
  go_enter Try.func11, Try.ntmps11
  go_wp2
  go_ret
  exact ⟨rfl, bl_refl _⟩

set_option maxHeartbeats 2000000 in
theorem exactDealRing_in (a1 : Int) (u : Value) (xs : List Int) (w : World) (hu : Ints w u xs) (hl : xs.length ≤ 1048576) :
    Calls Try.prog 11 #[u, .int .i64 a1] w fun e w' => e = .returned (.bool true) ∧ Bl w w' := by
  have hx0 : sumLen (dealOf xs a1) ≤ 1048576 := by rw [dealOf_sum]; exact hl
  obtain ⟨A, c, hA, hc, hm, _⟩ := hu.open
  unfold maxLen at hm
  subst hA
  have HU := Lib.hid hu
  clear hu
  go_enter Try.func11, Try.ntmps11
  have HB := Lib.hid (bl_refl w)
  go_wp2_with fail
  refine (toIntS_any (.slice A xs.length c) xs _ (HU.out.bl HB.out) hl).mono ?_
  rintro e w1 ⟨vt, rfl, o1, b1⟩
  have OT := Lib.hid (own_base o1 HB.out.size)
  replace HB := Lib.hid (bl_trans HB.out b1)
  clear o1 b1
  go_wp2_with fail
  refine (DealRing_spec vt xs a1 _ (Sl.of_own OT.out) (by omega)).mono ?_
  rintro e w1 ⟨vw, usvw, rfl, o1, b1⟩
  have ZOTOW := Lib.hid (sep_of (fun g hg => (own_lt OT.out g hg).2) (fun g hg => (o1.lt g hg).1))
  replace OT := Lib.hid (own_bl OT.out b1)
  have OW := Lib.hid (o1.base HB.out.size)
  replace HB := Lib.hid (bl_trans HB.out b1)
  clear o1 b1
  clear OT
  go_wp2_with fail
  refine (toIntS_any (.slice A xs.length c) xs _ (HU.out.bl HB.out) hl).mono ?_
  rintro e w1 ⟨vx, rfl, o1, b1⟩
  have ZOWOX := Lib.hid (sep_of (fun g hg => (OW.out.lt g hg).2) (fun g hg => (own_lt o1 g hg).1))
  replace OW := Lib.hid (OW.out.bl b1)
  have OX := Lib.hid (own_base o1 HB.out.size)
  replace HB := Lib.hid (bl_trans HB.out b1)
  clear o1 b1
  go_wp2_with fail
  refine (DealRing_impl vx xs a1 _ (Sl.of_own OX.out) (by omega)).mono ?_
  rintro e w1 ⟨vg, usvg, rfl, o1, b1⟩
  have ZOWOG := Lib.hid (sep_of (fun g hg => (OW.out.lt g hg).2) (fun g hg => (o1.lt g hg).1))
  have ZOXOG := Lib.hid (sep_of (fun g hg => (own_lt OX.out g hg).2) (fun g hg => (o1.lt g hg).1))
  replace OW := Lib.hid (OW.out.bl b1)
  replace OX := Lib.hid (own_bl OX.out b1)
  have OG := Lib.hid (o1.base HB.out.size)
  replace HB := Lib.hid (bl_trans HB.out b1)
  clear o1 b1
  go_wp2_with fail
  refine (eqIntSS_true vg vw _ _ (OwnSS.rowss OG.out) (OwnSS.rowss OW.out)).mono ?_
  rintro e w1 ⟨rfl, b1⟩
  replace OW := Lib.hid (OW.out.bl b1)
  replace OX := Lib.hid (own_bl OX.out b1)
  replace OG := Lib.hid (OG.out.bl b1)
  replace HB := Lib.hid (bl_trans HB.out b1)
  clear b1
  go_wp2_with fail
  refine (toIntS_any (.slice A xs.length c) xs _ (HU.out.bl HB.out) hl).mono ?_
  rintro e w1 ⟨vt, rfl, o1, b1⟩
  have ZOWOT := Lib.hid (sep_of (fun g hg => (OW.out.lt g hg).2) (fun g hg => (own_lt o1 g hg).1))
  have ZOXOT := Lib.hid (sep_of (fun g hg => (own_lt OX.out g hg).2) (fun g hg => (own_lt o1 g hg).1))
  have ZOGOT := Lib.hid (sep_of (fun g hg => (OG.out.lt g hg).2) (fun g hg => (own_lt o1 g hg).1))
  replace OW := Lib.hid (OW.out.bl b1)
  replace OX := Lib.hid (own_bl OX.out b1)
  replace OG := Lib.hid (OG.out.bl b1)
  have OT := Lib.hid (own_base o1 HB.out.size)
  replace HB := Lib.hid (bl_trans HB.out b1)
  clear o1 b1
  go_wp2_with fail
  refine (eqIntS_true vx vt xs _ (Sl.of_own OX.out) (Sl.of_own OT.out)).mono ?_
  rintro e w1 ⟨rfl, b1⟩
  replace OW := Lib.hid (OW.out.bl b1)
  replace OX := Lib.hid (own_bl OX.out b1)
  replace OG := Lib.hid (OG.out.bl b1)
  replace OT := Lib.hid (own_bl OT.out b1)
  replace HB := Lib.hid (bl_trans HB.out b1)
  clear b1
  clear OT
  go_wp2_with fail
  refine (markIntS_own vx _ xs 1 _ OX.out (by omega) (by omega)).mono ?_
  rintro e w1 ⟨rfl, o1, c1⟩
  replace OW := Lib.hid (OW.out.chg c1 ZOWOX.out)
  replace OG := Lib.hid (OG.out.chg c1 (fun g hg hg' => ZOXOG.out g hg' hg))
  replace HB := Lib.hid (bl_chg HB.out c1 (fun g hg => (own_lt OX.out g hg).1))
  replace OX := Lib.hid o1
  clear o1 c1
  clear OX
  go_wp2_with fail
  refine (eqIntSS_true vg vw _ _ (OwnSS.rowss OG.out) (OwnSS.rowss OW.out)).mono ?_
  rintro e w1 ⟨rfl, b1⟩
  replace OW := Lib.hid (OW.out.bl b1)
  replace OG := Lib.hid (OG.out.bl b1)
  replace HB := Lib.hid (bl_trans HB.out b1)
  clear b1
  go_wp2_with fail
  refine (markIntSS_own vg _ _ usvg 1 _ OG.out (by omega) (by omega)).mono ?_
  rintro e w1 ⟨rfl, o1, c1⟩
  replace OW := Lib.hid (OW.out.chg c1 ZOWOG.out)
  replace HB := Lib.hid (bl_chg HB.out c1 (fun g hg => (OG.out.lt g hg).1))
  replace OG := Lib.hid o1
  clear o1 c1
  go_wp2_with fail
  refine (heldIntSS_marks vg 1 _ _ (OwnSS.rowss OG.out) (by omega) (by omega)).mono ?_
  rintro e w1 ⟨rfl, rfl⟩
  go_wp2_with fail
  refine (toIntS_any (.slice A xs.length c) xs _ (HU.out.bl HB.out) hl).mono ?_
  rintro e w1 ⟨vt, rfl, o1, b1⟩
  have ZOWOT := Lib.hid (sep_of (fun g hg => (OW.out.lt g hg).2) (fun g hg => (own_lt o1 g hg).1))
  have ZOGOT := Lib.hid (sep_of (fun g hg => (OG.out.lt g hg).2) (fun g hg => (own_lt o1 g hg).1))
  replace OW := Lib.hid (OW.out.bl b1)
  replace OG := Lib.hid (OG.out.bl b1)
  have OT := Lib.hid (own_base o1 HB.out.size)
  replace HB := Lib.hid (bl_trans HB.out b1)
  clear o1 b1
  go_wp2_with fail
  refine (DealRing_impl vt xs a1 _ (Sl.of_own OT.out) (by omega)).mono ?_
  rintro e w1 ⟨vh, usvh, rfl, o1, b1⟩
  have ZOWOH := Lib.hid (sep_of (fun g hg => (OW.out.lt g hg).2) (fun g hg => (o1.lt g hg).1))
  have ZOGOH := Lib.hid (sep_of (fun g hg => (OG.out.lt g hg).2) (fun g hg => (o1.lt g hg).1))
  have ZOTOH := Lib.hid (sep_of (fun g hg => (own_lt OT.out g hg).2) (fun g hg => (o1.lt g hg).1))
  replace OW := Lib.hid (OW.out.bl b1)
  replace OG := Lib.hid (OG.out.bl b1)
  replace OT := Lib.hid (own_bl OT.out b1)
  have OH := Lib.hid (o1.base HB.out.size)
  replace HB := Lib.hid (bl_trans HB.out b1)
  clear o1 b1
  go_wp2_with fail
  refine (eqIntSS_true vh vw _ _ (OwnSS.rowss OH.out) (OwnSS.rowss OW.out)).mono ?_
  rintro e w1 ⟨rfl, b1⟩
  replace OW := Lib.hid (OW.out.bl b1)
  replace OG := Lib.hid (OG.out.bl b1)
  replace OT := Lib.hid (own_bl OT.out b1)
  replace OH := Lib.hid (OH.out.bl b1)
  replace HB := Lib.hid (bl_trans HB.out b1)
  clear b1
  go_wp2_with fail
  refine (heldIntSS_marks vg 1 _ _ (OwnSS.rowss OG.out) (by omega) (by omega)).mono ?_
  rintro e w1 ⟨rfl, rfl⟩
  go_wp2
  go_ret
  exact ⟨rfl, HB.out⟩

theorem exactDealRing_any (a1 : Int) (u : Value) (xs : List Int) (w : World) (hu : Ints w u xs) :
    Calls Try.prog 11 #[u, .int .i64 a1] w fun e w' => e = .returned (.bool true) ∧ Bl w w' := by
  by_cases hl : xs.length ≤ 1048576
  · exact exactDealRing_in a1 u xs w hu hl
  · exact exactDealRing_out a1 u xs w hu (by omega)

end Go.Proofs.Ythomhekbikpcfaa
