/- FnExactCircleRing returns true: the walk of the law. -/
import Derived.Test.YtlcppgiahfobgaaCircleRing
import Derived.Test.YtlcppgiahfobgaaIntS
namespace Go.Proofs.Ytlcppgiahfobgaa
open Go.RowKit

set_option maxHeartbeats 2000000 in
theorem exactCircleRing_in (a0 : Int) (a1 : Int) (w : World) :
    Calls Try.prog 12 #[.int .i64 a0, .int .i64 a1] w fun e w' => e = .returned (.bool true) ∧ Bl w w' := by
  have hx0 := circleOf_len a0 a1
  go_enter Try.func12, Try.ntmps12
  have HB := Lib.hid (bl_refl w)
  go_wp2_with fail
  refine (CircleRing_spec a0 a1 _).mono ?_
  rintro e w1 ⟨vw, rfl, o1, b1⟩
  have OW := Lib.hid (own_base o1 HB.out.size)
  replace HB := Lib.hid (bl_trans HB.out b1)
  clear o1 b1
  go_wp2_with fail
  refine (CircleRing_impl a0 a1 _).mono ?_
  rintro e w1 ⟨vg, rfl, o1, b1⟩
  have ZOWOG := Lib.hid (sep_of (fun g hg => (own_lt OW.out g hg).2) (fun g hg => (own_lt o1 g hg).1))
  replace OW := Lib.hid (own_bl OW.out b1)
  have OG := Lib.hid (own_base o1 HB.out.size)
  replace HB := Lib.hid (bl_trans HB.out b1)
  clear o1 b1
  go_wp2_with fail
  refine (eqIntS_true vg vw _ _ (OwnI.ints OG.out) (OwnI.ints OW.out)).mono ?_
  rintro e w1 ⟨rfl, b1⟩
  replace OW := Lib.hid (own_bl OW.out b1)
  replace OG := Lib.hid (own_bl OG.out b1)
  replace HB := Lib.hid (bl_trans HB.out b1)
  clear b1
  go_wp2_with fail
  refine (markIntS_own vg _ _ 1 _ OG.out (by omega) (by omega)).mono ?_
  rintro e w1 ⟨rfl, o1, c1⟩
  replace OW := Lib.hid (own_chg OW.out c1 ZOWOG.out)
  replace HB := Lib.hid (bl_chg HB.out c1 (fun g hg => (own_lt OG.out g hg).1))
  replace OG := Lib.hid o1
  clear o1 c1
  go_wp2_with fail
  refine (heldIntS_marks vg 1 _ _ (OwnI.ints OG.out) (by omega) (by omega)).mono ?_
  rintro e w1 ⟨rfl, rfl⟩
  go_wp2_with fail
  refine (CircleRing_impl a0 a1 _).mono ?_
  rintro e w1 ⟨vh, rfl, o1, b1⟩
  have ZOWOH := Lib.hid (sep_of (fun g hg => (own_lt OW.out g hg).2) (fun g hg => (own_lt o1 g hg).1))
  have ZOGOH := Lib.hid (sep_of (fun g hg => (own_lt OG.out g hg).2) (fun g hg => (own_lt o1 g hg).1))
  replace OW := Lib.hid (own_bl OW.out b1)
  replace OG := Lib.hid (own_bl OG.out b1)
  have OH := Lib.hid (own_base o1 HB.out.size)
  replace HB := Lib.hid (bl_trans HB.out b1)
  clear o1 b1
  go_wp2_with fail
  refine (eqIntS_true vh vw _ _ (OwnI.ints OH.out) (OwnI.ints OW.out)).mono ?_
  rintro e w1 ⟨rfl, b1⟩
  replace OW := Lib.hid (own_bl OW.out b1)
  replace OG := Lib.hid (own_bl OG.out b1)
  replace OH := Lib.hid (own_bl OH.out b1)
  replace HB := Lib.hid (bl_trans HB.out b1)
  clear b1
  go_wp2_with fail
  refine (heldIntS_marks vg 1 _ _ (OwnI.ints OG.out) (by omega) (by omega)).mono ?_
  rintro e w1 ⟨rfl, rfl⟩
  go_wp2
  go_ret
  exact ⟨rfl, HB.out⟩

end Go.Proofs.Ytlcppgiahfobgaa
