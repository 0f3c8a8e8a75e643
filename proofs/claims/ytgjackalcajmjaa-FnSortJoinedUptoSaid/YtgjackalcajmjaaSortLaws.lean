/- FnSortBoth returns true: the walk of the law. -/
import Derived.Test.YtgjackalcajmjaaSortList
import Derived.Test.YtgjackalcajmjaaSortRing
import Derived.Test.YtgjackalcajmjaaSortMore
import Derived.Test.YtgjackalcajmjaaOrder
namespace Go.Proofs.Ytgjackalcajmjaa
open Go.RowKit

set_option maxHeartbeats 2000000 in
theorem sortBoth_any (u : Value) (xs : List Int) (w : World) (hu : Ints w u xs) (hl : xs.length * 8 ≤ 140737488351232) :
    Calls Try.prog 6 #[u] w fun e w' => e = .returned (.bool true) ∧ Bl w w' := by
  have HU := Lib.hid hu
  obtain ⟨A, c, rfl, hc, hm, _⟩ := hu.open
  unfold maxLen at hm
  clear hu
  go_enter Try.func6, Try.ntmps6
  go_wp2_with fail
  refine (SortList_impl _ xs _ HU.out (by omega)).mono ?_
  rintro e w1 ⟨v1, rfl, o1, b1⟩
  obtain ⟨A1, c1, rfl, hc1, hm1, _⟩ := own_open o1
  have O1 := Lib.hid (OwnI.ints o1)
  have B1 := Lib.hid b1
  unfold maxLen at hm1
  have HL := Lib.hid (sorted_len xs)
  have HLE : Hid (∀ (k : Nat) (a b : Int), (sorted xs)[k]? = some a → (sorted xs)[k + 1]? = some b → a ≤ b) := fun k a b ha hb => by
    obtain ⟨h1, rfl⟩ := List.getElem?_eq_some_iff.1 ha
    obtain ⟨h2, rfl⟩ := List.getElem?_eq_some_iff.1 hb
    exact sorted_le xs k h2
  have HCT : Hid (∀ v, (sorted xs).count v = xs.count v) := fun v => (sorted_perm xs).count_eq v
  generalize hys : sorted xs = ys at *
  have HSE := Lib.hid hys
  clear hys
  have O1' : Hid (Ints w1 (.slice A1 xs.length c1) ys) := by rw [← HL.out]; exact O1.out
  rw [HL.out] at hc1 ⊢
  clear o1 b1
  obtain ⟨A', c', e0, _, _, hv⟩ := O1.out.open
  injection e0 with e1 e2 e3
  subst e1 e3
  have HV := Lib.hid hv
  clear hv e2
  go_wp2
  go_loop [4, 5, 10] (fun _ _ i => ∃ k : Nat, k ≤ xs.length ∧ i = .int .i64 k) (fun _ _ i => xs.length - (intOf i).toNat)
  case atStart => exact ⟨0, Nat.zero_le _, rfl⟩
  case round =>
    obtain ⟨k, hk, rfl⟩ := hrel
    by_cases hlt : k < xs.length
    · have hlt' : k < ys.length := by rw [HL.out]; exact hlt
      obtain ⟨b, off, rfl, hc1'⟩ := HV.out k hlt'
      have hg1 : ys[k]? = some ys[k] := List.getElem?_eq_getElem hlt'
      generalize ys[k] = y at *
      have HG1 := Lib.hid hg1
      clear hg1
      cases k with
      | zero =>
        simp only [Nat.add_zero] at hc1'
        go_wp2_with fail
        refine (count_any _ ys _ _ O1'.out).mono ?_
        rintro e w2 ⟨rfl, rfl⟩
        go_wp2_with fail
        refine (count_any _ xs _ _ (HU.out.bl B1.out)).mono ?_
        rintro e w2 ⟨rfl, rfl⟩
        rw [HCT.out]
        go_wp2
        go_round
        case rel => exact ⟨1, by omega, by go_num⟩
        case measure => simp [intOf]; omega
      | succ k =>
        have hlt2 : k < ys.length := by omega
        obtain ⟨b2, off2, hb2, hc2'⟩ := HV.out k hlt2
        injection hb2 with hb2
        injection hb2 with hb3 hb4
        subst hb3 hb4
        have hle := HLE.out k ys[k] y (List.getElem?_eq_getElem hlt2) HG1.out
        generalize ys[k] = z at *
        have hi1 : ((k + 1 : Nat) : Int) - 1 = (k : Int) := by omega
        go_wp2_with fail
        refine (count_any _ ys _ _ O1'.out).mono ?_
        rintro e w2 ⟨rfl, rfl⟩
        go_wp2_with fail
        refine (count_any _ xs _ _ (HU.out.bl B1.out)).mono ?_
        rintro e w2 ⟨rfl, rfl⟩
        rw [HCT.out]
        go_wp2
        go_round
        case rel => exact ⟨k + 2, by omega, by go_num⟩
        case measure => simp [intOf]; omega
    · go_wp2_with fail
      refine (SortRing_impl _ xs _ (HU.out.bl B1.out) (by omega)).mono ?_
      rintro e w3 ⟨v3, rfl, o3, b3⟩
      rw [HSE.out] at o3
      have O3 := Lib.hid (OwnI.ints o3)
      have B3 := Lib.hid b3
      clear o3 b3
      go_wp2_with fail
      refine (same_true _ _ _ _ (O1'.out.bl B3.out) O3.out).mono ?_
      rintro e w4 ⟨rfl, b4⟩
      have B4 := Lib.hid (bl_trans B1.out (bl_trans B3.out b4))
      clear b4
      go_wp2
      go_ret
      exact ⟨rfl, B4.out⟩

end Go.Proofs.Ytgjackalcajmjaa
