/- FnExactPlayRing returns true: the walk of the law. -/
import Derived.Test.YtlcppgiahfobgaaPlayRing
import Derived.Test.YtlcppgiahfobgaaPlaySpec
import Derived.Test.YtlcppgiahfobgaaIntS
namespace Go.Proofs.Ytlcppgiahfobgaa
open Go.RowKit

set_option maxHeartbeats 400000 in
theorem exactPlayRing_out (a0 : Int) (u : Value) (xs : List (Int × Int × Int)) (w : World) (hu : Mvs w u xs) (hl : 1048576 < xs.length) :
    Calls Try.prog 14 #[.int .i64 a0, u] w fun e w' => e = .returned (.bool true) ∧ Bl w w' := by
  have HU := Lib.hid hu
  clear hu
  go_enter Try.func14, Try.ntmps14
  go_wp2_with fail
  refine (szMoveS_out u xs _ _ HU.out (by omega) (by omega)).mono ?_
  rintro e w' ⟨rfl, hb⟩
  have HB := Lib.hid hb
  clear hb
  go_wp2
  go_ret
  exact ⟨rfl, HB.out⟩

set_option maxHeartbeats 2000000 in
theorem exactPlayRing_in (a0 : Int) (u : Value) (xs : List (Int × Int × Int)) (w : World) (hu : Mvs w u xs) (hl : xs.length ≤ 1048576) :
    Calls Try.prog 14 #[.int .i64 a0, u] w fun e w' => e = .returned (.bool true) ∧ Bl w w' := by
  have hx0 := playOf_len a0 xs
  have HU := Lib.hid hu
  clear hu
  go_enter Try.func14, Try.ntmps14
  have HB := Lib.hid (bl_refl w)
  go_wp2_with fail
  refine (szMoveS_in u xs _ _ HU.out (by omega) (by omega)).mono ?_
  rintro e w1 ⟨rfl, b1⟩
  replace HB := Lib.hid (bl_trans HB.out b1)
  clear b1
  go_wp2_with fail
  refine (toMoveS_any u xs _ (HU.out.bl HB.out) hl).mono ?_
  rintro e w1 ⟨vt, rfl, o1, b1⟩
  have OT := Lib.hid (own_base o1 HB.out.size)
  replace HB := Lib.hid (bl_trans HB.out b1)
  clear o1 b1
  go_wp2_with fail
  refine (PlayRing_spec a0 vt xs _ (Sl.of_own OT.out)).mono ?_
  rintro e w1 ⟨vw, rfl, o1, b1⟩
  have ZOTOW := Lib.hid (sep_of (fun g hg => (own_lt OT.out g hg).2) (fun g hg => (own_lt o1 g hg).1))
  replace OT := Lib.hid (own_bl OT.out b1)
  have OW := Lib.hid (own_base o1 HB.out.size)
  replace HB := Lib.hid (bl_trans HB.out b1)
  clear o1 b1
  clear OT
  go_wp2_with fail
  refine (toMoveS_any u xs _ (HU.out.bl HB.out) hl).mono ?_
  rintro e w1 ⟨vx, rfl, o1, b1⟩
  have ZOWOX := Lib.hid (sep_of (fun g hg => (own_lt OW.out g hg).2) (fun g hg => (own_lt o1 g hg).1))
  replace OW := Lib.hid (own_bl OW.out b1)
  have OX := Lib.hid (own_base o1 HB.out.size)
  replace HB := Lib.hid (bl_trans HB.out b1)
  clear o1 b1
  go_wp2_with fail
  refine (PlayRing_impl a0 vx xs _ (Sl.of_own OX.out)).mono ?_
  rintro e w1 ⟨vg, rfl, o1, b1⟩
  have ZOWOG := Lib.hid (sep_of (fun g hg => (own_lt OW.out g hg).2) (fun g hg => (o1.lt g hg).1))
  have ZOXOG := Lib.hid (sep_of (fun g hg => (own_lt OX.out g hg).2) (fun g hg => (o1.lt g hg).1))
  replace OW := Lib.hid (own_bl OW.out b1)
  replace OX := Lib.hid (own_bl OX.out b1)
  have OG := Lib.hid (o1.rebase HB.out.size)
  replace HB := Lib.hid (bl_trans HB.out b1)
  clear o1 b1
  go_wp2_with fail
  refine (eqIntS_true vg vw _ _ (OwnX.ints OG.out) (OwnI.ints OW.out)).mono ?_
  rintro e w1 ⟨rfl, b1⟩
  replace OW := Lib.hid (own_bl OW.out b1)
  replace OX := Lib.hid (own_bl OX.out b1)
  replace OG := Lib.hid (OG.out.bl b1)
  replace HB := Lib.hid (bl_trans HB.out b1)
  clear b1
  go_wp2_with fail
  refine (toMoveS_any u xs _ (HU.out.bl HB.out) hl).mono ?_
  rintro e w1 ⟨vt, rfl, o1, b1⟩
  have ZOWOT := Lib.hid (sep_of (fun g hg => (own_lt OW.out g hg).2) (fun g hg => (own_lt o1 g hg).1))
  have ZOXOT := Lib.hid (sep_of (fun g hg => (own_lt OX.out g hg).2) (fun g hg => (own_lt o1 g hg).1))
  have ZOGOT := Lib.hid (sep_of (fun g hg => (OG.out.lt g hg).2) (fun g hg => (own_lt o1 g hg).1))
  replace OW := Lib.hid (own_bl OW.out b1)
  replace OX := Lib.hid (own_bl OX.out b1)
  replace OG := Lib.hid (OG.out.bl b1)
  have OT := Lib.hid (own_base o1 HB.out.size)
  replace HB := Lib.hid (bl_trans HB.out b1)
  clear o1 b1
  go_wp2_with fail
  refine (eqMoveS_true vx vt xs _ (Sl.of_own OX.out) (Sl.of_own OT.out)).mono ?_
  rintro e w1 ⟨rfl, b1⟩
  replace OW := Lib.hid (own_bl OW.out b1)
  replace OX := Lib.hid (own_bl OX.out b1)
  replace OG := Lib.hid (OG.out.bl b1)
  replace OT := Lib.hid (own_bl OT.out b1)
  replace HB := Lib.hid (bl_trans HB.out b1)
  clear b1
  clear OT
  go_wp2_with fail
  refine (markMoveS_own vx _ _ _ 1 _ OX.out (by omega) (by omega)).mono ?_
  rintro e w1 ⟨rfl, c1⟩
  replace OW := Lib.hid (own_chg OW.out c1 ZOWOX.out)
  replace OG := Lib.hid (OG.out.chg c1 (fun g hg hg' => ZOXOG.out g hg' hg))
  replace HB := Lib.hid (bl_chg HB.out c1 (fun g hg => (own_lt OX.out g hg).1))
  clear c1
  clear OX
  go_wp2_with fail
  refine (eqIntS_true vg vw _ _ (OwnX.ints OG.out) (OwnI.ints OW.out)).mono ?_
  rintro e w1 ⟨rfl, b1⟩
  replace OW := Lib.hid (own_bl OW.out b1)
  replace OG := Lib.hid (OG.out.bl b1)
  replace HB := Lib.hid (bl_trans HB.out b1)
  clear b1
  go_wp2_with fail
  refine (markIntS_ownX vg _ _ 1 _ OG.out (by omega) (by omega)).mono ?_
  rintro e w1 ⟨rfl, o1, c1⟩
  replace OW := Lib.hid (own_chg OW.out c1 ZOWOG.out)
  replace HB := Lib.hid (bl_chg HB.out c1 (fun g hg => (OG.out.lt g hg).1))
  replace OG := Lib.hid o1
  clear o1 c1
  go_wp2_with fail
  refine (heldIntS_marks vg 1 _ _ (OwnX.ints OG.out) (by omega) (by omega)).mono ?_
  rintro e w1 ⟨rfl, rfl⟩
  go_wp2_with fail
  refine (toMoveS_any u xs _ (HU.out.bl HB.out) hl).mono ?_
  rintro e w1 ⟨vt, rfl, o1, b1⟩
  have ZOWOT := Lib.hid (sep_of (fun g hg => (own_lt OW.out g hg).2) (fun g hg => (own_lt o1 g hg).1))
  have ZOGOT := Lib.hid (sep_of (fun g hg => (OG.out.lt g hg).2) (fun g hg => (own_lt o1 g hg).1))
  replace OW := Lib.hid (own_bl OW.out b1)
  replace OG := Lib.hid (OG.out.bl b1)
  have OT := Lib.hid (own_base o1 HB.out.size)
  replace HB := Lib.hid (bl_trans HB.out b1)
  clear o1 b1
  go_wp2_with fail
  refine (PlayRing_impl a0 vt xs _ (Sl.of_own OT.out)).mono ?_
  rintro e w1 ⟨vh, rfl, o1, b1⟩
  have ZOWOH := Lib.hid (sep_of (fun g hg => (own_lt OW.out g hg).2) (fun g hg => (o1.lt g hg).1))
  have ZOGOH := Lib.hid (sep_of (fun g hg => (OG.out.lt g hg).2) (fun g hg => (o1.lt g hg).1))
  have ZOTOH := Lib.hid (sep_of (fun g hg => (own_lt OT.out g hg).2) (fun g hg => (o1.lt g hg).1))
  replace OW := Lib.hid (own_bl OW.out b1)
  replace OG := Lib.hid (OG.out.bl b1)
  replace OT := Lib.hid (own_bl OT.out b1)
  have OH := Lib.hid (o1.rebase HB.out.size)
  replace HB := Lib.hid (bl_trans HB.out b1)
  clear o1 b1
  go_wp2_with fail
  refine (eqIntS_true vh vw _ _ (OwnX.ints OH.out) (OwnI.ints OW.out)).mono ?_
  rintro e w1 ⟨rfl, b1⟩
  replace OW := Lib.hid (own_bl OW.out b1)
  replace OG := Lib.hid (OG.out.bl b1)
  replace OT := Lib.hid (own_bl OT.out b1)
  replace OH := Lib.hid (OH.out.bl b1)
  replace HB := Lib.hid (bl_trans HB.out b1)
  clear b1
  go_wp2_with fail
  refine (heldIntS_marks vg 1 _ _ (OwnX.ints OG.out) (by omega) (by omega)).mono ?_
  rintro e w1 ⟨rfl, rfl⟩
  go_wp2
  go_ret
  exact ⟨rfl, HB.out⟩

theorem exactPlayRing_any (a0 : Int) (u : Value) (xs : List (Int × Int × Int)) (w : World) (hu : Mvs w u xs) :
    Calls Try.prog 14 #[.int .i64 a0, u] w fun e w' => e = .returned (.bool true) ∧ Bl w w' := by
  by_cases hl : xs.length ≤ 1048576
  · exact exactPlayRing_in a0 u xs w hu hl
  · exact exactPlayRing_out a0 u xs w hu (by omega)

end Go.Proofs.Ytlcppgiahfobgaa
