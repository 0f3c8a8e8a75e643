/- FnGatherBoth returns true: the walk of the law. -/
import Derived.Test.YtgjackalcajmjaaGatherLaws
namespace Go.Proofs.Ytgjackalcajmjaa
open Go.RowKit

/-- A slice of slices that is one's own outside; the rows are as they are in w0. -/
structure OutSS (w0 w : World) (base : Nat) (v : Value) (rows : List (List Int)) (us : List Value) : Prop where
  own : w.ownsRow base 22 1 v rows.length us
  row : ∀ k (hk : k < rows.length), ∃ u, us[k]? = some u ∧ Ints w0 u rows[k]
theorem nil_ints (w : World) : Ints w (.slice none 0 0) [] := ⟨rfl, _, _, rfl, Nat.le_refl _, Nat.zero_le _, fun h => absurd h (by simp)⟩
theorem OutSS.rowss {w0 w : World} {base : Nat} {v : Value} {rows : List (List Int)} {us : List Value} (h : OutSS w0 w base v rows us) (hb : Bl w0 w) : Rowss w v rows :=
  ⟨us, Sl.of_own h.own, fun k hk => by
    obtain ⟨u, e, hu⟩ := h.row k hk
    exact ⟨u, e, hu.bl hb⟩⟩
theorem OutSS.two {w0 w w2 : World} {base : Nat} {v v' u : Value} {rows : List (List Int)} {us : List Value} {xs : List Int} (h : OutSS w0 w base v rows us) (hu : Ints w0 u xs) (ho : w2.ownsRow base 22 1 v' (rows.length + 2) (us ++ [u, .slice none 0 0])) : OutSS w0 w2 base v' (rows ++ [xs, []]) (us ++ [u, .slice none 0 0]) := by
  have hus : us.length = rows.length := by have := h.own.1; omega
  refine ⟨by rw [List.length_append]; exact ho, fun k hk => ?_⟩
  rw [List.length_append] at hk
  simp only [List.length_cons, List.length_nil] at hk
  rcases (by omega : k < rows.length ∨ k = rows.length ∨ k = rows.length + 1) with h1 | h1 | h1
  · obtain ⟨y, e, hy⟩ := h.row k h1
    refine ⟨y, by rw [List.getElem?_append_left (by omega)]; exact e, ?_⟩
    rw [List.getElem_append_left h1]; exact hy
  · subst h1
    refine ⟨u, by rw [List.getElem?_append_right (by omega), hus]; simp, ?_⟩
    rw [List.getElem_append_right (by omega)]
    simp only [Nat.sub_self, List.getElem_cons_zero]
    exact hu
  · subst h1
    refine ⟨.slice none 0 0, by rw [List.getElem?_append_right (by omega), hus]; simp, ?_⟩
    rw [List.getElem_append_right (by omega)]
    simp only [Nat.add_sub_cancel_left, List.getElem_cons_succ, List.getElem_cons_zero]
    exact nil_ints w0
theorem sl_two {w : World} {g : Nat} {u v : Value} (h0 : w.cell? ⟨g, 0, none⟩ = some u) (h1 : w.cell? ⟨g, 1, none⟩ = some v) : Sl w 1 (.slice (some ⟨g, 0, none⟩) 2 2) 2 [u, v] := by
  refine ⟨rfl, _, _, rfl, Nat.le_refl _, by unfold maxLen; decide, fun _ => ⟨g, 0, rfl, fun j y hy => ?_⟩⟩
  match j with
  | 0 => simp at hy; subst hy; exact h0
  | 1 => simp at hy; subst hy; exact h1
  | j + 2 => simp at hy
theorem own_one' (w : World) (e : TypeId) (u : Value) : (w.alloc (.cells #[u] e)).ownsRow w.heap.size e 1 (.slice (some ⟨w.heap.size, 0, none⟩) 1 1) 1 [u] :=
  ⟨rfl, .inr ⟨w.heap.size, 1, #[u], rfl, Nat.le_refl _, heap_alloc_new w _, Nat.le_refl _, by unfold maxLen; omega, by simp, by simp⟩⟩

set_option maxHeartbeats 2000000 in
theorem gatherBoth_any (u : Value) (rows : List (List Int)) (w : World) (hu : Rowss w u rows) (hb : bulk rows ≤ 1048576) :
    Calls Try.prog 5 #[u] w fun e w' => e = .returned (.bool true) ∧ Bl w w' := by
  have HU := Lib.hid hu
  obtain ⟨A, c, rfl, hc, hm, hv⟩ := hu.open
  have HV := Lib.hid hv
  unfold maxLen at hm
  clear hu hv
  have hs : bulk rows = rows.length + sumLen rows := rfl
  have hs1 : sumLen rows ≤ 1048576 := by omega
  have hs2 : rows.length ≤ 1048576 := by omega
  clear hs hb
  obtain ⟨i0, hi, hz0, hz1, hz2⟩ := info_parts rowInfo
  go_enter Try.func5, Try.ntmps5
  go_wp2
  go_loopw [3, 5, 10] (fun av _ i wr => ∃ j : Nat, j ≤ rows.length ∧ i = .int .i64 j ∧ (∃ us, OutSS w wr w.heap.size av (spread (rows.take j)) us) ∧ Bl w wr) (fun _ _ i _ => rows.length - (intOf i).toNat)
  case atStart =>
    refine ⟨0, Nat.zero_le _, rfl, ⟨[.slice none 0 0], ⟨own_one' w 22 (.slice none 0 0), fun k hk => ?_⟩⟩, bl_alloc (bl_refl _) _⟩
    match k with
    | 0 => exact ⟨_, rfl, nil_ints w⟩
    | k + 1 => exact absurd hk (by simp [spread])
  case round =>
    obtain ⟨j, hj, rfl, ⟨us, hss⟩, hbl⟩ := hrel
    have HSS := Lib.hid hss
    have HB := Lib.hid hbl
    clear hss hbl
    have HSL : Hid ((spread (rows.take j)).length = 2 * j + 1) := by
      show _ = _
      rw [spread_len, List.length_take]; omega
    by_cases hlt : j < rows.length
    · obtain ⟨b, off, r, rfl, hc1, hr⟩ := HV.out j hlt
      have r1 := (HB.out.cell (World.block_lt_of_cell? _ _ hc1)).trans hc1
      have HRW := Lib.hid hr
      have HT := Lib.hid (spread_take rows j hlt)
      obtain ⟨nr, Ar, cr, hvr⟩ := ints_val hr
      subst hvr
      clear hc1 hr
      generalize rows[j] = row at *
      go_wp2_with (at_builtin; go_must (refine wpList_cat (wr.alloc (.cells #[.slice Ar nr cr, .slice none 0 0] 22)) rfl (.tmp 14) (.tmp 16) _ rfl w.heap.size 22 i0 _ 1 24 Try.underlying25 hi hz0 hz1 hz2 rfl (by decide) u3 (spread (rows.take j)).length us rfl (HSS.out.own.alloc _) _ 2 [.slice Ar nr cr, .slice none 0 0] rfl (sl_two (World.cell?_alloc_new wr _ _ 0) (World.cell?_alloc_new wr _ _ 1)) (by intro y hy; simp at hy; rcases hy with rfl | rfl <;> rfl) (by rw [HSL.out]; unfold maxLen; omega) (by rw [HSL.out]; omega) (Nat.le_trans HB.out.size (by simp)) ?_); intro v3 w3 hown3 hchg3 hloc3)
      have HS3 := Lib.hid (HSS.out.two HRW.out hown3)
      have HB3 := Lib.hid (bl_own (bl_alloc HB.out _) (HSS.out.own.alloc _) hchg3)
      clear hown3 hchg3 hloc3
      go_roundw
      case rel => exact ⟨j + 1, by omega, by go_num, ⟨_, by rw [HT.out]; exact HS3.out⟩, HB3.out⟩
      case measure => simp [intOf]; omega
    · obtain rfl : j = rows.length := by omega
      rw [List.take_length] at HSS
      have HAL := Lib.hid (HSS.out.rowss HB.out)
      clear HSS HSL
      have HGS := Lib.hid (gather_spread rows)
      have t1 : sumLen (spread rows) ≤ 17592186043904 := by rw [spread_sum]; omega
      have t2 : (spread rows).length ≤ 17592186043904 := by rw [spread_len]; omega
      have hgl : (gather rows).length = sumLen rows := gather_sum rows
      have hfl : rows.flatten.length = sumLen rows := flatten_len rows
      obtain ⟨sl, hsl⟩ : ∃ sl, sumLen rows = sl := ⟨_, rfl⟩
      rw [hsl] at hgl hfl
      have HGL := Lib.hid hgl
      have HFL := Lib.hid hfl
      clear hgl hfl hsl
      go_wp2_with fail
      refine (GatherList_impl _ rows _ (HU.out.bl HB.out) (by omega) (by omega)).mono ?_
      rintro e w2 ⟨v2, rfl, o2, b2⟩
      have O2' := Lib.hid (OwnI.ints o2)
      obtain ⟨A2, c2, hv2, hc2, hm2, _⟩ := own_open o2
      rw [HGL.out] at hv2 hc2
      subst hv2
      unfold maxLen at hm2
      have B2 := Lib.hid b2
      clear o2 b2
      go_wp2_with fail
      refine (JoinList_spec _ rows _ (HU.out.bl (bl_trans HB.out B2.out)) (by omega)).mono ?_
      rintro e w3 ⟨v3, rfl, o3, b3⟩
      obtain ⟨A3, c3, hv3, hc3, hm3, _⟩ := own_open o3
      rw [HFL.out] at hv3 hc3
      subst hv3
      unfold maxLen at hm3
      have C3 := Lib.hid b3
      have B3 := Lib.hid (bl_trans B2.out b3)
      clear o3 b3
      go_wp2_with fail
      refine (GatherRing_impl _ rows _ (HU.out.bl (bl_trans HB.out B3.out)) (by omega) (by omega)).mono ?_
      rintro e w4 ⟨v4, rfl, o4, b4⟩
      have O4 := Lib.hid (OwnI.ints o4)
      have B4 := Lib.hid (bl_trans B3.out b4)
      have C4 := Lib.hid (bl_trans C3.out b4)
      clear o4 b4
      have O2 : Hid (Ints w2 (.slice A2 sl c2) (gather rows)) := O2'.out
      go_wp2_with fail
      refine (same_true _ _ _ _ (O2.out.bl C4.out) O4.out).mono ?_
      rintro e w5 ⟨rfl, b5⟩
      have B5 := Lib.hid (bl_trans B4.out b5)
      have C5 := Lib.hid (bl_trans C4.out b5)
      clear b5
      go_wp2_with fail
      refine (GatherList_impl _ (spread rows) _ (HAL.out.bl B5.out) t1 t2).mono ?_
      rintro e w6 ⟨v6, rfl, o6, b6⟩
      rw [HGS.out] at o6
      have O6 := Lib.hid (OwnI.ints o6)
      have B6 := Lib.hid (bl_trans B5.out b6)
      have C6 := Lib.hid (bl_trans C5.out b6)
      clear o6 b6
      go_wp2_with fail
      refine (same_true _ _ _ _ (O2.out.bl C6.out) O6.out).mono ?_
      rintro e w7 ⟨rfl, b7⟩
      have B7 := Lib.hid (bl_trans B6.out b7)
      have C7 := Lib.hid (bl_trans C6.out b7)
      clear b7
      go_wp2_with fail
      refine (GatherRing_impl _ (spread rows) _ (HAL.out.bl B7.out) t1 t2).mono ?_
      rintro e w8 ⟨v8, rfl, o8, b8⟩
      rw [HGS.out] at o8
      have O8 := Lib.hid (OwnI.ints o8)
      have B8 := Lib.hid (bl_trans B7.out b8)
      have C8 := Lib.hid (bl_trans C7.out b8)
      clear o8 b8
      go_wp2_with fail
      refine (same_true _ _ _ _ (O2.out.bl C8.out) O8.out).mono ?_
      rintro e w9 ⟨rfl, b9⟩
      have B9 := Lib.hid (bl_trans HB.out (bl_trans B8.out b9))
      clear b9
      go_wp2
      go_ret
      exact ⟨rfl, B9.out⟩

end Go.Proofs.Ytgjackalcajmjaa
