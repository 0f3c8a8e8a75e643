/- FnExactGatherRing returns true: the walk of the law. -/
import Derived.Test.YthomhekbikpcfaaGatherRing
import Derived.Test.YthomhekbikpcfaaGatherSpec
import Derived.Test.YthomhekbikpcfaaRowsS2
namespace Go.Proofs.Ythomhekbikpcfaa
open Go.RowKit

set_option maxHeartbeats 400000 in
theorem exactGatherRing_out (u : Value) (xs : List (List Int)) (w : World) (hu : Rowss w u xs) (hl : 1048576 < bulk xs) :
    Calls Try.prog 13 #[u] w fun e w' => e = .returned (.bool true) ∧ Bl w w' := by
  have HU := Lib.hid hu
  clear hu
  go_enter Try.func13, Try.ntmps13
  go_wp2_with fail
  refine (szIntSS_out u xs _ _ HU.out (by omega) (by omega) (by omega)).mono ?_
  rintro e w' ⟨rfl, hb⟩
  have HB := Lib.hid hb
  clear hb
  go_wp2
  go_ret
  exact ⟨rfl, HB.out⟩

set_option maxHeartbeats 2000000 in
theorem exactGatherRing_in (u : Value) (xs : List (List Int)) (w : World) (hu : Rowss w u xs) (hl : bulk xs ≤ 1048576) :
    Calls Try.prog 13 #[u] w fun e w' => e = .returned (.bool true) ∧ Bl w w' := by
  have hb : bulk xs = xs.length + sumLen xs := rfl
  have hx0 : (gather xs).length ≤ 1048576 := by rw [gather_sum]; omega
  have HU := Lib.hid hu
  clear hu
  go_enter Try.func13, Try.ntmps13
  have HB := Lib.hid (bl_refl w)
  go_wp2_with fail
  refine (szIntSS_in u xs _ _ HU.out (by omega) (by omega)).mono ?_
  rintro e w1 ⟨rfl, b1⟩
  replace HB := Lib.hid (bl_trans HB.out b1)
  clear b1
  go_wp2_with fail
  refine (toIntSS_any u xs _ (HU.out.bl HB.out) hl).mono ?_
  rintro e w1 ⟨vt, usvt, rfl, o1, b1⟩
  have OT := Lib.hid (o1.base HB.out.size)
  replace HB := Lib.hid (bl_trans HB.out b1)
  clear o1 b1
  go_wp2_with fail
  refine (GatherRing_spec vt xs _ (OwnSS.rowss OT.out) (by omega) (by omega)).mono ?_
  rintro e w1 ⟨vw, rfl, o1, b1⟩
  have ZOTOW := Lib.hid (sep_of (fun g hg => (OT.out.lt g hg).2) (fun g hg => (own_lt o1 g hg).1))
  replace OT := Lib.hid (OT.out.bl b1)
  have OW := Lib.hid (own_base o1 HB.out.size)
  replace HB := Lib.hid (bl_trans HB.out b1)
  clear o1 b1
  clear OT
  go_wp2_with fail
  refine (toIntSS_any u xs _ (HU.out.bl HB.out) hl).mono ?_
  rintro e w1 ⟨vx, usvx, rfl, o1, b1⟩
  have ZOWOX := Lib.hid (sep_of (fun g hg => (own_lt OW.out g hg).2) (fun g hg => (o1.lt g hg).1))
  replace OW := Lib.hid (own_bl OW.out b1)
  have OX := Lib.hid (o1.base HB.out.size)
  replace HB := Lib.hid (bl_trans HB.out b1)
  clear o1 b1
  go_wp2_with fail
  refine (GatherRing_impl vx xs _ (OwnSS.rowss OX.out) (by omega) (by omega)).mono ?_
  rintro e w1 ⟨vg, rfl, o1, b1⟩
  have ZOWOG := Lib.hid (sep_of (fun g hg => (own_lt OW.out g hg).2) (fun g hg => (own_lt o1 g hg).1))
  have ZOXOG := Lib.hid (sep_of (fun g hg => (OX.out.lt g hg).2) (fun g hg => (own_lt o1 g hg).1))
  replace OW := Lib.hid (own_bl OW.out b1)
  replace OX := Lib.hid (OX.out.bl b1)
  have OG := Lib.hid (own_base o1 HB.out.size)
  replace HB := Lib.hid (bl_trans HB.out b1)
  clear o1 b1
  go_wp2_with fail
  refine (eqIntS_true vg vw _ _ (OwnI.ints OG.out) (OwnI.ints OW.out)).mono ?_
  rintro e w1 ⟨rfl, b1⟩
  replace OW := Lib.hid (own_bl OW.out b1)
  replace OX := Lib.hid (OX.out.bl b1)
  replace OG := Lib.hid (own_bl OG.out b1)
  replace HB := Lib.hid (bl_trans HB.out b1)
  clear b1
  go_wp2_with fail
  refine (toIntSS_any u xs _ (HU.out.bl HB.out) hl).mono ?_
  rintro e w1 ⟨vt, usvt, rfl, o1, b1⟩
  have ZOWOT := Lib.hid (sep_of (fun g hg => (own_lt OW.out g hg).2) (fun g hg => (o1.lt g hg).1))
  have ZOXOT := Lib.hid (sep_of (fun g hg => (OX.out.lt g hg).2) (fun g hg => (o1.lt g hg).1))
  have ZOGOT := Lib.hid (sep_of (fun g hg => (own_lt OG.out g hg).2) (fun g hg => (o1.lt g hg).1))
  replace OW := Lib.hid (own_bl OW.out b1)
  replace OX := Lib.hid (OX.out.bl b1)
  replace OG := Lib.hid (own_bl OG.out b1)
  have OT := Lib.hid (o1.base HB.out.size)
  replace HB := Lib.hid (bl_trans HB.out b1)
  clear o1 b1
  go_wp2_with fail
  refine (eqIntSS_true vx vt xs _ (OwnSS.rowss OX.out) (OwnSS.rowss OT.out)).mono ?_
  rintro e w1 ⟨rfl, b1⟩
  replace OW := Lib.hid (own_bl OW.out b1)
  replace OX := Lib.hid (OX.out.bl b1)
  replace OG := Lib.hid (own_bl OG.out b1)
  replace OT := Lib.hid (OT.out.bl b1)
  replace HB := Lib.hid (bl_trans HB.out b1)
  clear b1
  clear OT
  go_wp2_with fail
  refine (markIntSS_own vx _ xs usvx 1 _ OX.out (by omega) (by omega)).mono ?_
  rintro e w1 ⟨rfl, o1, c1⟩
  replace OW := Lib.hid (own_chg OW.out c1 ZOWOX.out)
  replace OG := Lib.hid (own_chg OG.out c1 (fun g hg hg' => ZOXOG.out g hg' hg))
  replace HB := Lib.hid (bl_chg HB.out c1 (fun g hg => (OX.out.lt g hg).1))
  replace OX := Lib.hid o1
  clear o1 c1
  clear OX
  go_wp2_with fail
  refine (eqIntS_true vg vw _ _ (OwnI.ints OG.out) (OwnI.ints OW.out)).mono ?_
  rintro e w1 ⟨rfl, b1⟩
  replace OW := Lib.hid (own_bl OW.out b1)
  replace OG := Lib.hid (own_bl OG.out b1)
  replace HB := Lib.hid (bl_trans HB.out b1)
  clear b1
  go_wp2_with fail
  refine (markIntS_own vg _ _ 1 _ OG.out (by omega) (by omega)).mono ?_
  rintro e w1 ⟨rfl, o1, c1⟩
  replace OW := Lib.hid (own_chg OW.out c1 ZOWOG.out)
  replace HB := Lib.hid (bl_chg HB.out c1 (fun g hg => (own_lt OG.out g hg).1))
  replace OG := Lib.hid o1
  clear o1 c1
  go_wp2_with fail
  refine (heldIntS_marks vg 1 _ _ (OwnI.ints OG.out) (by omega) (by omega)).mono ?_
  rintro e w1 ⟨rfl, rfl⟩
  go_wp2_with fail
  refine (toIntSS_any u xs _ (HU.out.bl HB.out) hl).mono ?_
  rintro e w1 ⟨vt, usvt, rfl, o1, b1⟩
  have ZOWOT := Lib.hid (sep_of (fun g hg => (own_lt OW.out g hg).2) (fun g hg => (o1.lt g hg).1))
  have ZOGOT := Lib.hid (sep_of (fun g hg => (own_lt OG.out g hg).2) (fun g hg => (o1.lt g hg).1))
  replace OW := Lib.hid (own_bl OW.out b1)
  replace OG := Lib.hid (own_bl OG.out b1)
  have OT := Lib.hid (o1.base HB.out.size)
  replace HB := Lib.hid (bl_trans HB.out b1)
  clear o1 b1
  go_wp2_with fail
  refine (GatherRing_impl vt xs _ (OwnSS.rowss OT.out) (by omega) (by omega)).mono ?_
  rintro e w1 ⟨vh, rfl, o1, b1⟩
  have ZOWOH := Lib.hid (sep_of (fun g hg => (own_lt OW.out g hg).2) (fun g hg => (own_lt o1 g hg).1))
  have ZOGOH := Lib.hid (sep_of (fun g hg => (own_lt OG.out g hg).2) (fun g hg => (own_lt o1 g hg).1))
  have ZOTOH := Lib.hid (sep_of (fun g hg => (OT.out.lt g hg).2) (fun g hg => (own_lt o1 g hg).1))
  replace OW := Lib.hid (own_bl OW.out b1)
  replace OG := Lib.hid (own_bl OG.out b1)
  replace OT := Lib.hid (OT.out.bl b1)
  have OH := Lib.hid (own_base o1 HB.out.size)
  replace HB := Lib.hid (bl_trans HB.out b1)
  clear o1 b1
  go_wp2_with fail
  refine (eqIntS_true vh vw _ _ (OwnI.ints OH.out) (OwnI.ints OW.out)).mono ?_
  rintro e w1 ⟨rfl, b1⟩
  replace OW := Lib.hid (own_bl OW.out b1)
  replace OG := Lib.hid (own_bl OG.out b1)
  replace OT := Lib.hid (OT.out.bl b1)
  replace OH := Lib.hid (own_bl OH.out b1)
  replace HB := Lib.hid (bl_trans HB.out b1)
  clear b1
  go_wp2_with fail
  refine (heldIntS_marks vg 1 _ _ (OwnI.ints OG.out) (by omega) (by omega)).mono ?_
  rintro e w1 ⟨rfl, rfl⟩
  go_wp2
  go_ret
  exact ⟨rfl, HB.out⟩

theorem exactGatherRing_any (u : Value) (xs : List (List Int)) (w : World) (hu : Rowss w u xs) :
    Calls Try.prog 13 #[u] w fun e w' => e = .returned (.bool true) ∧ Bl w w' := by
  by_cases hl : bulk xs ≤ 1048576
  · exact exactGatherRing_in u xs w hu hl
  · exact exactGatherRing_out u xs w hu (by omega)

end Go.Proofs.Ythomhekbikpcfaa
