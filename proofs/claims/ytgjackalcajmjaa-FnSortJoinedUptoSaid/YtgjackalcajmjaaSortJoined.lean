/- FnSortJoined returns true: the walk of the law. -/
import Derived.Test.YtgjackalcajmjaaSortLaws
import Derived.Test.YtgjackalcajmjaaJoinLaws
import Derived.Test.YtgjackalcajmjaaTurnList
namespace Go.Proofs.Ytgjackalcajmjaa
open Go.RowKit

theorem rot_perm' {α : Type} (xs : List α) (k : Nat) : (rot xs k).Perm xs := by
  unfold rot
  have h := (List.perm_append_comm (l₁ := xs.drop k) (l₂ := xs.take k))
  rwa [List.take_append_drop] at h
theorem sorted_turn (xs : List Int) (k : Int) : sorted (turnOf xs k) = sorted xs := sorted_congr (rot_perm' _ _)

/-- One row more. -/
theorem OwnSS.snoc {w w1 w2 : World} {base : Nat} {v v' : Value} {rows : List (List Int)} {us : List Value} {u : Value} {xs : List Int} (h : OwnSS w base v rows us) (hbase : base ≤ w.heap.size) (hb : Bl w w1) (hu : OwnI w1 w.heap.size u xs)
    (ho : w2.ownsRow base 22 1 v' (rows.length + 1) (us ++ [u])) (hc : Chg (fun k => v.ownBlock = some k) w1 w2) : OwnSS w2 base v' (rows ++ [xs]) (us ++ [u]) := by
  have hus : us.length = rows.length := by have := h.own.1; omega
  have hv1 := own_bl h.own hb
  refine ⟨by rw [List.length_append]; exact ho, fun k hk => ?_, fun i j a b hij hi hj g hg hg' => ?_⟩
  · rw [List.length_append] at hk
    simp only [List.length_cons, List.length_nil] at hk
    rcases (by omega : k < rows.length ∨ k = rows.length) with h1 | h1
    · obtain ⟨y, e, hy⟩ := h.row k h1
      refine ⟨y, by rw [List.getElem?_append_left (by omega)]; exact e, ?_⟩
      rw [List.getElem_append_left h1]
      have hy1 := own_bl hy hb
      exact own_chg hy1 hc (own_ne hy1 hv1 (by decide))
    · subst h1
      refine ⟨u, by rw [List.getElem?_append_right (by omega), hus]; simp, ?_⟩
      rw [List.getElem_append_right (by omega)]
      simp only [Nat.sub_self, List.getElem_cons_zero]
      have hu1 := own_base hu hbase
      exact own_chg hu1 hc (own_ne hu1 hv1 (by decide))
  · have hjl : j < us.length + 1 := by
      have := (List.getElem?_eq_some_iff.1 hj).1
      simpa using this
    rw [List.getElem?_append_left (by omega)] at hi
    rcases (by omega : j < us.length ∨ j = us.length) with h1 | h1
    · rw [List.getElem?_append_left h1] at hj
      exact h.sep i j a b hij hi hj g hg hg'
    · subst h1
      rw [List.getElem?_append_right (Nat.le_refl _)] at hj
      simp at hj
      subst hj
      have l1 := (h.lt g (.inr ⟨a, List.mem_of_getElem? hi, hg⟩)).2
      have l2 := (own_lt hu g hg').1
      omega

set_option maxHeartbeats 2000000 in
theorem sortJoined_any (k : Int) (u : Value) (rows : List (List Int)) (w : World) (hu : Rowss w u rows) (hb : bulk rows ≤ 1048576) :
    Calls Try.prog 7 #[u, .int .i64 k] w fun e w' => e = .returned (.bool true) ∧ Bl w w' := by
  have HU := Lib.hid hu
  obtain ⟨A, c, rfl, hc, hm, hv⟩ := hu.open
  have HV := Lib.hid hv
  unfold maxLen at hm
  clear hu hv
  have hs : bulk rows = rows.length + sumLen rows := rfl
  have hs1 : sumLen rows ≤ 1048576 := by omega
  have hs2 : rows.length ≤ 1048576 := by omega
  clear hs hb
  obtain ⟨i0, hi, hz0, hz1, hz2⟩ := info_parts rowInfo
  go_enter Try.func7, Try.ntmps7
  go_wp2
  go_loopw [5, 7, 13] (fun pv _ i wr => ∃ j : Nat, j ≤ rows.length ∧ i = .int .i64 j ∧ (∃ us, OwnSS wr w.heap.size pv ((rows.take j).map sorted) us) ∧ Bl w wr) (fun _ _ i _ => rows.length - (intOf i).toNat)
  case atStart => exact ⟨0, Nat.zero_le _, rfl, ⟨[], ⟨own_empty _ _ _, fun k hk => absurd hk (by simp), fun i j a b hij hi hj => by simp at hi⟩⟩, bl_alloc (bl_refl _) _⟩
  case round =>
    obtain ⟨j, hj, rfl, ⟨us, hss⟩, hbl⟩ := hrel
    have HSS := Lib.hid hss
    have HB := Lib.hid hbl
    clear hss hbl
    by_cases hlt : j < rows.length
    · obtain ⟨b, off, r, rfl, hc1, hr⟩ := HV.out j hlt
      have r1 := (HB.out.cell (World.block_lt_of_cell? _ _ hc1)).trans hc1
      have HRW := Lib.hid (hr.bl HB.out)
      have HT := Lib.hid (List.take_succ_eq_append_getElem hlt)
      have hrl : rows[j].length ≤ sumLen rows := le_sum (List.mem_map.2 ⟨_, List.getElem_mem hlt, rfl⟩)
      obtain ⟨nr, Ar, cr, hvr⟩ := ints_val hr
      subst hvr
      have HLJ : Hid (((rows.take j).map sorted).length = j) := by
        show ((rows.take j).map sorted).length = j
        rw [List.length_map, List.length_take]; omega
      clear hc1 hr
      generalize rows[j] = row at *
      go_wp2_with fail
      refine (SortList_impl _ row _ HRW.out (by omega)).mono ?_
      rintro e w2 ⟨v2, rfl, o2, b2⟩
      obtain ⟨n2, A2, c2, hv2⟩ := ints_val (OwnI.ints o2)
      subst hv2
      have O2 := Lib.hid o2
      have B2 := Lib.hid b2
      have HSO := Lib.hid (own_bl HSS.out.own b2)
      clear o2 b2
      go_wp2_with (at_builtin; go_must (refine wpList_push w2 rfl (.tmp 17) (.tmp 20) _ rfl w.heap.size 22 i0 _ 24 Try.underlying25 hi hz0 hz1 hz2 rfl u5 _ us rfl HSO.out (.slice A2 n2 c2) rfl rfl rfl (by rw [HLJ.out]; omega) (by rw [HLJ.out]; omega) (bl_trans HB.out B2.out).size ?_); intro v3 w3 hown3 hchg3 hloc3)
      have HS3 := Lib.hid (HSS.out.snoc HB.out.size B2.out O2.out hown3 hchg3)
      have HB3 := Lib.hid (bl_own (bl_trans HB.out B2.out) HSO.out hchg3)
      clear hown3 hchg3 hloc3
      go_roundw
      case rel => exact ⟨j + 1, by omega, by go_num, ⟨_, by rw [HT.out, List.map_append]; exact HS3.out⟩, HB3.out⟩
      case measure => simp [intOf]; omega
    · obtain rfl : j = rows.length := by omega
      rw [List.take_length] at HSS
      have HPR := Lib.hid (OwnSS.rowss HSS.out)
      clear HSS
      have HSP := Lib.hid (sorted_parts rows)
      have HST := Lib.hid (sorted_turn rows.flatten k)
      have HTN := Lib.hid (turnOf_len rows.flatten k)
      have hpl : sumLen (rows.map sorted) ≤ 1048576 := by
        have : sumLen (rows.map sorted) = sumLen rows := by
          unfold sumLen
          rw [List.map_map]
          congr 1
          exact List.map_congr_left (fun r _ => sorted_len r)
        omega
      have hpl2 : (rows.map sorted).length ≤ 1048576 := by rw [List.length_map]; exact hs2
      have hfl : rows.flatten.length ≤ 1048576 := by rw [flatten_len]; exact hs1
      have hfl2 : (rows.map sorted).flatten.length ≤ 1048576 := by rw [flatten_len]; exact hpl
      go_wp2_with fail
      refine (JoinList_spec _ rows _ (HU.out.bl HB.out) (by omega)).mono ?_
      rintro e w2 ⟨v2, rfl, o2, b2⟩
      have HSL := Lib.hid (sorted_len rows.flatten)
      generalize hall : rows.flatten = all at *
      clear hall
      have O2 := Lib.hid (OwnI.ints o2)
      obtain ⟨A2, c2, rfl, hc2, hm2, _⟩ := own_open o2
      have B2 := Lib.hid b2
      unfold maxLen at hm2
      clear o2 b2
      go_wp2_with fail
      refine (SortRing_impl _ all _ O2.out (by omega)).mono ?_
      rintro e w3 ⟨v3, rfl, o3, b3⟩
      obtain ⟨want, hw⟩ : ∃ want, sorted all = want := ⟨_, rfl⟩
      rw [hw] at o3 HSP HST HSL
      have O3 := Lib.hid (OwnI.ints o3)
      obtain ⟨A3, c3, rfl, hc3, hm3, _⟩ := own_open o3
      have B3 := Lib.hid b3
      unfold maxLen at hm3
      have hwl : want.length = all.length := HSL.out
      rw [hwl] at O3 hc3 ⊢
      clear o3 b3 hw hwl
      go_wp2_with fail
      refine (JoinList_impl _ (rows.map sorted) _ (HPR.out.bl (bl_trans B2.out B3.out)) (by omega) (by omega)).mono ?_
      rintro e w4 ⟨v4, rfl, o4, b4⟩
      have O4 := Lib.hid (OwnI.ints o4)
      have B4 := Lib.hid b4
      clear o4 b4
      go_wp2_with fail
      refine (SortList_impl _ _ _ O4.out (by omega)).mono ?_
      rintro e w5 ⟨v5, rfl, o5, b5⟩
      rw [HSP.out] at o5
      have O5 := Lib.hid (OwnI.ints o5)
      have B5 := Lib.hid (bl_trans B4.out b5)
      clear o5 b5
      go_wp2_with fail
      refine (same_true _ _ _ _ O5.out (O3.out.bl B5.out)).mono ?_
      rintro e w6 ⟨rfl, b6⟩
      have B6 := Lib.hid (bl_trans B5.out b6)
      clear b6
      go_wp2_with fail
      refine (TurnRing_impl _ all k _ (O2.out.bl (bl_trans B3.out B6.out)) (by omega)).mono ?_
      rintro e w7 ⟨v7, rfl, o7, b7⟩
      have O7 := Lib.hid (OwnI.ints o7)
      have B7 := Lib.hid (bl_trans B6.out b7)
      clear o7 b7
      go_wp2_with fail
      refine (SortRing_impl _ _ _ O7.out (by rw [HTN.out]; omega)).mono ?_
      rintro e w8 ⟨v8, rfl, o8, b8⟩
      rw [HST.out] at o8
      have O8 := Lib.hid (OwnI.ints o8)
      have B8 := Lib.hid (bl_trans B7.out b8)
      clear o8 b8
      go_wp2_with fail
      refine (same_true _ _ _ _ O8.out (O3.out.bl B8.out)).mono ?_
      rintro e w9 ⟨rfl, b9⟩
      have B9 := Lib.hid (bl_trans HB.out (bl_trans B2.out (bl_trans B3.out (bl_trans B8.out b9))))
      clear b9
      go_wp2
      go_ret
      exact ⟨rfl, B9.out⟩

end Go.Proofs.Ytgjackalcajmjaa
