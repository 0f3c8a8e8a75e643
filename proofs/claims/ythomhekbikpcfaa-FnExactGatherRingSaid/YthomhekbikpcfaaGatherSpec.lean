/- The walk of GatherList's reference. -/
import Derived.Test.YthomhekbikpcfaaGatherPure
import Derived.Test.YthomhekbikpcfaaRowsS2
namespace Go.Proofs.Ythomhekbikpcfaa
open Go.RowKit

theorem col_take (i : Nat) (rows : List (List Int)) (k : Nat) (hk : k < rows.length) : col i (rows.take (k + 1)) = col i (rows.take k) ++ (rows[k][i]?).toList := by
  unfold col
  rw [List.take_succ_eq_append_getElem hk, List.filterMap_append, List.filterMap_cons]
  cases rows[k][i]? <;> rfl
theorem gatherTo_le (rows : List (List Int)) (M : Nat) : (gatherTo M rows).length ≤ (gather rows).length := by
  rcases Nat.le_total M (longest rows) with h | h
  · have key : ∀ d, (gatherTo M rows).length ≤ (gatherTo (M + d) rows).length := by
      intro d
      induction d with
      | zero => exact Nat.le_refl _
      | succ d ih => rw [Nat.add_succ, gatherTo_succ, List.length_append]; omega
    have := key (longest rows - M)
    rw [show M + (longest rows - M) = longest rows by omega] at this
    exact this
  · rw [gatherTo_eq M h]; exact Nat.le_refl _

set_option maxHeartbeats 2000000 in
theorem GatherList_spec (v : Value) (rows : List (List Int)) (w : World) (hv : Rowss w v rows) (hl : sumLen rows ≤ 1048576) (hr : rows.length ≤ 1048576) :
    Calls Try.prog 34 #[v] w (NewInts w (gather rows)) := by
  obtain ⟨i0, hi, hz0, hz1, hz2⟩ := info_parts intInfo
  obtain ⟨A, c, rfl, hc, hm, hv⟩ := hv.open
  have HV := Lib.hid hv
  clear hv
  unfold maxLen at hm
  have hgl : (gather rows).length ≤ 1048576 := by rw [show (gather rows).length = sumLen rows from gather_len _ rows rfl]; exact hl
  have HGL := Lib.hid hgl
  have hlong : longest rows ≤ 1048576 := longest_le (fun r hr' => Nat.le_trans (le_sum (List.mem_map.2 ⟨r, hr', rfl⟩)) hl)
  clear hgl
  go_enter Try.func34, Try.ntmps34
  go_wp2
  go_loopg [3, 4, 5, 7] (longest rows + 1) (fun g ov iv _ _ wr => ∃ i : Nat, (i ≤ longest rows ∧ i + g = longest rows + 1) ∧ iv = .int .i64 i ∧ OwnI wr w.heap.size ov (gatherTo i rows) ∧ Bl w wr)
  case atStart => exact ⟨0, by omega, rfl, own_empty _ _ _, bl_alloc (bl_refl _) _⟩
  case round =>
    obtain ⟨i, hig, rfl, hown, hbl⟩ := hrel
    obtain ⟨hi1, hi2⟩ := hig
    have HO := Lib.hid hown
    have HB := Lib.hid hbl
    have HI2 := Lib.hid hi2
    clear hown hbl hi2
    have HTL := Lib.hid (gatherTo_le rows (i + 1))
    have HTS := Lib.hid (gatherTo_succ i rows)
    go_wp2
    go_loopw [3, 5, 7, 13] (fun ov sv _ jv ws => ∃ j : Nat, j ≤ rows.length ∧ jv = .int .i64 j ∧ sv = .bool (!(col i (rows.take j)).isEmpty) ∧ OwnI ws w.heap.size ov (gatherTo i rows ++ col i (rows.take j)) ∧ Bl w ws) (fun _ _ _ jv _ => rows.length - (intOf jv).toNat)
    case atStart => exact ⟨0, Nat.zero_le _, rfl, rfl, by rw [List.take_zero]; exact (by rw [show col i [] = [] from rfl, List.append_nil]; exact HO.out), HB.out⟩
    case round =>
      clear HO HB
      obtain ⟨j, hj, rfl, rfl, hown, hbl⟩ := hrel
      have HO := Lib.hid hown
      have HB := Lib.hid hbl
      clear hown hbl
      by_cases hlt : j < rows.length
      · obtain ⟨b, off, u, rfl, hc1, hu⟩ := HV.out j hlt
        have r1 := (HB.out.cell (World.block_lt_of_cell? _ _ hc1)).trans hc1
        obtain ⟨A2, c2, hu2, hq2, hw2, hcell⟩ := hu.open
        subst hu2
        unfold maxLen at hw2
        have HCT := Lib.hid (col_take i rows j hlt)
        have hbound : (gatherTo i rows ++ col i (rows.take (j + 1))).length ≤ 1048576 := by
          have h1 := HTL.out
          rw [HTS.out] at h1
          have h2 := HGL.out
          have h3 : (col i (rows.take (j + 1))).length ≤ (col i rows).length := by
            have e : col i rows = col i (rows.take (j + 1)) ++ col i (rows.drop (j + 1)) := by
              unfold col
              rw [← List.filterMap_append, List.take_append_drop]
            rw [e, List.length_append]; omega
          rw [List.length_append] at h1 ⊢
          omega
        have HBD := Lib.hid hbound
        clear hc1 hu hbound
        by_cases hil : i < rows[j].length
        · obtain ⟨b3, off3, rfl, hc3⟩ := hcell i hil
          have r3 := (HB.out.cell (World.block_lt_of_cell? _ _ hc3)).trans hc3
          have hget : rows[j][i]? = some rows[j][i] := List.getElem?_eq_getElem hil
          have HCT2 : Hid (col i (rows.take (j + 1)) = col i (rows.take j) ++ [rows[j][i]]) := by
            show _ = _
            rw [HCT.out, hget]; rfl
          have hlen : (gatherTo i rows ++ col i (rows.take j)).length + 1 ≤ 1048576 := by
            have := HBD.out
            rw [HCT2.out] at this
            simp only [List.length_append, List.length_cons, List.length_nil] at this ⊢
            omega
          clear hcell hc3 hget
          generalize rows[j][i] = y at *
          generalize rows[j].length = rl at *
          generalize hcc : col i (rows.take j) = cc at *
          clear hcc
          go_wp2_with (at_builtin; go_must (refine wpList_push wr rfl (.tmp 21) (.tmp 26) _ rfl w.heap.size 3 i0 _ 8 Try.underlying24 hi hz0 hz1 hz2 rfl u3 _ _ rfl HO.out (.int .i64 y) rfl rfl rfl (by omega) (by omega) HB.out.size ?_); intro v4 w4 hown4 hchg4 hloc4)
          have O4 := Lib.hid (OwnI.snoc hown4)
          have HB4 := Lib.hid (bl_own HB.out HO.out hchg4)
          clear hown4 hchg4 hloc4
          go_roundw
          case rel => exact ⟨j + 1, by omega, by go_num, by rw [HCT2.out]; simp, by rw [HCT2.out, ← List.append_assoc]; exact O4.out, HB4.out⟩
          case measure => simp [intOf]; omega
        · have hget : rows[j][i]? = none := List.getElem?_eq_none (by omega)
          have HCT2 : Hid (col i (rows.take (j + 1)) = col i (rows.take j)) := by
            show _ = _
            rw [HCT.out, hget]; simp
          clear hcell hget
          generalize rows[j].length = rl at *
          generalize hcc : col i (rows.take j) = cc at *
          clear hcc
          go_wp2
          go_roundw
          case rel => exact ⟨j + 1, by omega, by go_num, by rw [HCT2.out], by rw [HCT2.out]; exact HO.out, HB.out⟩
          case measure => simp [intOf]; omega
      · obtain rfl : j = rows.length := by omega
        rw [List.take_length] at HO ⊢
        by_cases hcol : col i rows = []
        · have HGN := Lib.hid (gather_none hcol)
          rw [hcol] at HO ⊢
          rw [List.append_nil] at HO
          go_wp2
          go_ret
          exact ⟨_, rfl, by rw [← HGN.out]; exact HO.out, HB.out⟩
        · have hsl := some_longest hcol
          have hne : (!(col i rows).isEmpty) = true := by simp [hcol]
          rw [hne]
          go_wp2
          go_roundg (longest rows - i)
          case rel => exact ⟨i + 1, by omega, by go_num, by rw [HTS.out]; exact HO.out, HB.out⟩
          case measure => have := HI2.out; omega

set_option maxHeartbeats 400000 in
theorem GatherRing_spec (v : Value) (rows : List (List Int)) (w : World) (hv : Rowss w v rows) (hl : sumLen rows ≤ 1048576) (hr : rows.length ≤ 1048576) :
    Calls Try.prog 47 #[v] w (NewInts w (gather rows)) := by
  have HV := Lib.hid hv
  clear hv
  go_enter Try.func47, Try.ntmps47
  go_wp2_with fail
  refine (GatherList_spec v rows _ HV.out hl hr).mono ?_
  rintro e w1 ⟨v1, rfl, o1, b1⟩
  have O1 := Lib.hid o1
  have B1 := Lib.hid b1
  clear o1 b1
  go_wp2
  go_ret
  exact ⟨_, rfl, O1.out, B1.out⟩

end Go.Proofs.Ythomhekbikpcfaa
