/- FnExactCycles returns true: the walk of the law. -/
import Derived.Test.YtebkmegkdcnfaaaCycSpec
namespace Go.Proofs.Ytebkmegkdcnfaaa
open Go.RowKit

set_option maxRecDepth 100000 in
set_option maxHeartbeats 400000 in
theorem exactCycles_out (a0 : Int) (u : Value) (xs : List (Int × Int)) (w : World) (hu : Prs w u xs) (hl : 1048576 < xs.length) :
    Calls Try.prog 4 #[.int .i64 a0, u] w fun e w' => e = .returned (.bool true) ∧ Bl w w' := by
  have HU := Lib.hid hu
  clear hu
  go_enter Try.func4, Try.ntmps4
  go_wp2_with fail
  refine (szPairS_out u xs _ _ HU.out (by omega) (by omega)).mono ?_
  rintro e w' ⟨rfl, hb⟩
  have HB := Lib.hid hb
  clear hb
  go_wp2
  go_ret
  exact ⟨rfl, HB.out⟩

set_option maxRecDepth 100000 in
set_option maxHeartbeats 2000000 in
theorem exactCycles_in (a0 : Int) (u : Value) (xs : List (Int × Int)) (w : World) (hu : Prs w u xs) (hl : xs.length ≤ 1048576) :
    Calls Try.prog 4 #[.int .i64 a0, u] w fun e w' => e = .returned (.bool true) ∧ Bl w w' := by
  have hx0 : sumLen (cyclesOf (ix a0 200) xs) ≤ 1048576 := by have h1 := cyclesOf_sum (ix a0 200) xs; have h2 := ix_lt a0 (n := 200) (by omega); omega
  have HU := Lib.hid hu
  clear hu
  go_enter Try.func4, Try.ntmps4
  have HB := Lib.hid (bl_refl w)
  go_wp2_with fail
  refine (szPairS_in u xs _ _ HU.out (by omega) (by omega)).mono ?_
  rintro e w1 ⟨rfl, b1⟩
  replace HB := Lib.hid (bl_trans HB.out b1)
  clear b1
  go_wp2_with fail
  refine (toPairS_any u xs _ (HU.out.bl HB.out) hl).mono ?_
  rintro e w1 ⟨vt, rfl, o1, b1⟩
  have OT := Lib.hid (own_base o1 HB.out.size)
  replace HB := Lib.hid (bl_trans HB.out b1)
  clear o1 b1
  go_wp2_with fail
  refine (Cycles_spec a0 vt xs _ (Sl.of_own OT.out)).mono ?_
  rintro e w1 ⟨vw, usvw, rfl, o1, b1⟩
  have ZOTOW := Lib.hid (sep_of (fun g hg => (own_lt OT.out g hg).2) (fun g hg => (o1.lt g hg).1))
  replace OT := Lib.hid (own_bl OT.out b1)
  have OW := Lib.hid (o1.base HB.out.size)
  replace HB := Lib.hid (bl_trans HB.out b1)
  clear o1 b1
  clear OT
  go_wp2_with fail
  refine (toPairS_any u xs _ (HU.out.bl HB.out) hl).mono ?_
  rintro e w1 ⟨vx, rfl, o1, b1⟩
  have ZOWOX := Lib.hid (sep_of (fun g hg => (OW.out.lt g hg).2) (fun g hg => (own_lt o1 g hg).1))
  replace OW := Lib.hid (OW.out.bl b1)
  have OX := Lib.hid (own_base o1 HB.out.size)
  replace HB := Lib.hid (bl_trans HB.out b1)
  clear o1 b1
  go_wp2_with fail
  refine (Cycles_impl a0 vx xs _ (Sl.of_own OX.out)).mono ?_
  rintro e w1 ⟨vg, usvg, rfl, o1, b1⟩
  have ZOWOG := Lib.hid (sep_of (fun g hg => (OW.out.lt g hg).2) (fun g hg => (o1.lt g hg).1))
  have ZOXOG := Lib.hid (sep_of (fun g hg => (own_lt OX.out g hg).2) (fun g hg => (o1.lt g hg).1))
  replace OW := Lib.hid (OW.out.bl b1)
  replace OX := Lib.hid (own_bl OX.out b1)
  have OG := Lib.hid (o1.base HB.out.size)
  replace HB := Lib.hid (bl_trans HB.out b1)
  clear o1 b1
  go_wp2_with fail
  refine (eqIntSS_true vg vw _ _ (OwnSS.rowss OG.out) (OwnSS.rowss OW.out)).mono ?_
  rintro e w1 ⟨rfl, b1⟩
  replace OW := Lib.hid (OW.out.bl b1)
  replace OX := Lib.hid (own_bl OX.out b1)
  replace OG := Lib.hid (OG.out.bl b1)
  replace HB := Lib.hid (bl_trans HB.out b1)
  clear b1
  go_wp2_with fail
  refine (toPairS_any u xs _ (HU.out.bl HB.out) hl).mono ?_
  rintro e w1 ⟨vt, rfl, o1, b1⟩
  have ZOWOT := Lib.hid (sep_of (fun g hg => (OW.out.lt g hg).2) (fun g hg => (own_lt o1 g hg).1))
  have ZOXOT := Lib.hid (sep_of (fun g hg => (own_lt OX.out g hg).2) (fun g hg => (own_lt o1 g hg).1))
  have ZOGOT := Lib.hid (sep_of (fun g hg => (OG.out.lt g hg).2) (fun g hg => (own_lt o1 g hg).1))
  replace OW := Lib.hid (OW.out.bl b1)
  replace OX := Lib.hid (own_bl OX.out b1)
  replace OG := Lib.hid (OG.out.bl b1)
  have OT := Lib.hid (own_base o1 HB.out.size)
  replace HB := Lib.hid (bl_trans HB.out b1)
  clear o1 b1
  go_wp2_with fail
  refine (eqPairS_true vx vt xs _ (Sl.of_own OX.out) (Sl.of_own OT.out)).mono ?_
  rintro e w1 ⟨rfl, b1⟩
  replace OW := Lib.hid (OW.out.bl b1)
  replace OX := Lib.hid (own_bl OX.out b1)
  replace OG := Lib.hid (OG.out.bl b1)
  replace OT := Lib.hid (own_bl OT.out b1)
  replace HB := Lib.hid (bl_trans HB.out b1)
  clear b1
  clear OT
  go_wp2_with fail
  refine (markPairS_own vx _ _ _ 1 _ OX.out (by omega) (by omega)).mono ?_
  rintro e w1 ⟨rfl, c1⟩
  replace OW := Lib.hid (OW.out.chg c1 ZOWOX.out)
  replace OG := Lib.hid (OG.out.chg c1 (fun g hg hg' => ZOXOG.out g hg' hg))
  replace HB := Lib.hid (bl_chg HB.out c1 (fun g hg => (own_lt OX.out g hg).1))
  clear c1
  clear OX
  go_wp2_with fail
  refine (eqIntSS_true vg vw _ _ (OwnSS.rowss OG.out) (OwnSS.rowss OW.out)).mono ?_
  rintro e w1 ⟨rfl, b1⟩
  replace OW := Lib.hid (OW.out.bl b1)
  replace OG := Lib.hid (OG.out.bl b1)
  replace HB := Lib.hid (bl_trans HB.out b1)
  clear b1
  go_wp2_with fail
  refine (markIntSS_own vg _ _ usvg 1 _ OG.out (by omega) (by omega)).mono ?_
  rintro e w1 ⟨rfl, o1, c1⟩
  replace OW := Lib.hid (OW.out.chg c1 ZOWOG.out)
  replace HB := Lib.hid (bl_chg HB.out c1 (fun g hg => (OG.out.lt g hg).1))
  replace OG := Lib.hid o1
  clear o1 c1
  go_wp2_with fail
  refine (heldIntSS_marks vg 1 _ _ (OwnSS.rowss OG.out) (by omega) (by omega)).mono ?_
  rintro e w1 ⟨rfl, rfl⟩
  go_wp2_with fail
  refine (toPairS_any u xs _ (HU.out.bl HB.out) hl).mono ?_
  rintro e w1 ⟨vt, rfl, o1, b1⟩
  have ZOWOT := Lib.hid (sep_of (fun g hg => (OW.out.lt g hg).2) (fun g hg => (own_lt o1 g hg).1))
  have ZOGOT := Lib.hid (sep_of (fun g hg => (OG.out.lt g hg).2) (fun g hg => (own_lt o1 g hg).1))
  replace OW := Lib.hid (OW.out.bl b1)
  replace OG := Lib.hid (OG.out.bl b1)
  have OT := Lib.hid (own_base o1 HB.out.size)
  replace HB := Lib.hid (bl_trans HB.out b1)
  clear o1 b1
  go_wp2_with fail
  refine (Cycles_impl a0 vt xs _ (Sl.of_own OT.out)).mono ?_
  rintro e w1 ⟨vh, usvh, rfl, o1, b1⟩
  have ZOWOH := Lib.hid (sep_of (fun g hg => (OW.out.lt g hg).2) (fun g hg => (o1.lt g hg).1))
  have ZOGOH := Lib.hid (sep_of (fun g hg => (OG.out.lt g hg).2) (fun g hg => (o1.lt g hg).1))
  have ZOTOH := Lib.hid (sep_of (fun g hg => (own_lt OT.out g hg).2) (fun g hg => (o1.lt g hg).1))
  replace OW := Lib.hid (OW.out.bl b1)
  replace OG := Lib.hid (OG.out.bl b1)
  replace OT := Lib.hid (own_bl OT.out b1)
  have OH := Lib.hid (o1.base HB.out.size)
  replace HB := Lib.hid (bl_trans HB.out b1)
  clear o1 b1
  go_wp2_with fail
  refine (eqIntSS_true vh vw _ _ (OwnSS.rowss OH.out) (OwnSS.rowss OW.out)).mono ?_
  rintro e w1 ⟨rfl, b1⟩
  replace OW := Lib.hid (OW.out.bl b1)
  replace OG := Lib.hid (OG.out.bl b1)
  replace OT := Lib.hid (own_bl OT.out b1)
  replace OH := Lib.hid (OH.out.bl b1)
  replace HB := Lib.hid (bl_trans HB.out b1)
  clear b1
  go_wp2_with fail
  refine (heldIntSS_marks vg 1 _ _ (OwnSS.rowss OG.out) (by omega) (by omega)).mono ?_
  rintro e w1 ⟨rfl, rfl⟩
  go_wp2
  go_ret
  exact ⟨rfl, HB.out⟩

theorem exactCycles_any (a0 : Int) (u : Value) (xs : List (Int × Int)) (w : World) (hu : Prs w u xs) :
    Calls Try.prog 4 #[.int .i64 a0, u] w fun e w' => e = .returned (.bool true) ∧ Bl w w' := by
  by_cases hl : xs.length ≤ 1048576
  · exact exactCycles_in a0 u xs w hu hl
  · exact exactCycles_out a0 u xs w hu (by omega)

end Go.Proofs.Ytebkmegkdcnfaaa
