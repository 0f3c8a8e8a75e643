/- FnJoinBoth returns true: the walk of the law. -/
import Derived.Test.YtgjackalcajmjaaJoin
import Derived.Test.YtgjackalcajmjaaJoinRing
import Derived.Test.YtgjackalcajmjaaOrder
namespace Go.Proofs.Ytgjackalcajmjaa
open Go.RowKit

set_option maxHeartbeats 2000000 in
theorem joinBoth_any (u : Value) (rows : List (List Int)) (w : World) (hu : Rowss w u rows) (hb : bulk rows ≤ 1048576) :
    Calls Try.prog 8 #[u] w fun e w' => e = .returned (.bool true) ∧ Bl w w' := by
  have HU := Lib.hid hu
  clear hu
  have hs : bulk rows = rows.length + sumLen rows := rfl
  have hs1 : sumLen rows ≤ 1048576 := by omega
  have hs2 : rows.length ≤ 1048576 := by omega
  clear hs hb
  obtain ⟨ys, hys⟩ : ∃ ys, rows.flatten = ys := ⟨_, rfl⟩
  have hyl : ys.length ≤ 1048576 := by rw [← hys, flatten_len]; exact hs1
  have HYS := Lib.hid hys
  clear hys
  go_enter Try.func8, Try.ntmps8
  go_wp2_with fail
  refine (JoinList_impl u rows _ HU.out (by omega) (by omega)).mono ?_
  rintro e w1 ⟨v1, rfl, o1, b1⟩
  rw [HYS.out] at o1
  have O1 := Lib.hid (OwnI.ints o1)
  have B1 := Lib.hid b1
  obtain ⟨A1, c1, rfl, hc1, hm1, _⟩ := own_open o1
  unfold maxLen at hm1
  clear o1 b1
  go_wp2_with fail
  refine (JoinList_spec u rows _ (HU.out.bl B1.out) (by omega)).mono ?_
  rintro e w2 ⟨v2, rfl, o2, b2⟩
  rw [HYS.out] at o2
  have B2 := Lib.hid b2
  obtain ⟨A2, c2, rfl, hc2, hm2, _⟩ := own_open o2
  unfold maxLen at hm2
  clear o2 b2
  go_wp2_with fail
  refine (JoinRing_impl u rows _ (HU.out.bl (bl_trans B1.out B2.out)) (by omega)).mono ?_
  rintro e w3 ⟨v3, rfl, o3, b3⟩
  rw [HYS.out] at o3
  have O3 := Lib.hid (OwnX.ints o3)
  have B3 := Lib.hid (bl_trans B2.out b3)
  clear o3 b3
  go_wp2_with fail
  refine (same_true _ v3 _ _ (O1.out.bl B3.out) O3.out).mono ?_
  rintro e w4 ⟨rfl, b4⟩
  have B4 := Lib.hid (bl_trans B1.out (bl_trans B3.out b4))
  clear b4
  go_wp2
  go_ret
  exact ⟨rfl, B4.out⟩

/-- Parts of a slice of slices. -/
theorem Rowss.take {w : World} {A : Option Addr} {n c : Nat} {rows : List (List Int)} (h : Rowss w (.slice A n c) rows) (k : Nat) (hk : k ≤ n) : Rowss w (.slice A k c) (rows.take k) := by
  obtain ⟨us, ⟨h1, A', c', e, h2, h3, h4⟩, h5⟩ := h
  injection e with e1 e2 e3
  subst e1 e2 e3
  have hl : (rows.take k).length = k := by rw [List.length_take]; omega
  refine ⟨us.take k, ⟨by rw [hl, List.length_take]; omega, A, c, by rw [hl], by rw [hl]; omega, h3, fun h0 => ?_⟩, fun j hj => ?_⟩
  · rw [hl] at h0
    obtain ⟨b, off, e, h6⟩ := h4 (by omega)
    refine ⟨b, off, e, fun j u hu => h6 j u ?_⟩
    rw [List.getElem?_take] at hu
    split at hu
    · exact hu
    · cases hu
  · rw [hl] at hj
    obtain ⟨u, hu, hi⟩ := h5 j (by omega)
    refine ⟨u, by rw [List.getElem?_take, if_pos hj]; exact hu, ?_⟩
    rw [List.getElem_take]; exact hi
theorem Rowss.drop {w : World} {A : Option Addr} {n c : Nat} {rows : List (List Int)} (h : Rowss w (.slice A n c) rows) (k : Nat) (hk : k ≤ n) : Rowss w (.slice (if c = k then A else A.map (·.add k)) (n - k) (c - k)) (rows.drop k) := by
  obtain ⟨us, ⟨h1, A', c', e, h2, h3, h4⟩, h5⟩ := h
  injection e with e1 e2 e3
  subst e1 e2 e3
  have hl : (rows.drop k).length = rows.length - k := by rw [List.length_drop]
  refine ⟨us.drop k, ⟨by rw [hl, List.length_drop]; omega, _, _, by rw [hl], by rw [hl]; omega, by omega, fun h0 => ?_⟩, fun j hj => ?_⟩
  · rw [hl] at h0
    obtain ⟨b, off, e, h6⟩ := h4 (by omega)
    subst e
    refine ⟨b, off + k, ?_, fun j u hu => ?_⟩
    · rw [if_neg (by omega)]
      simp [Addr.add]
    · rw [List.getElem?_drop] at hu
      have := h6 (k + j) u hu
      rw [Nat.add_assoc]; exact this
  · rw [hl] at hj
    obtain ⟨u, hu, hi⟩ := h5 (k + j) (by omega)
    refine ⟨u, by rw [List.getElem?_drop]; exact hu, ?_⟩
    rw [List.getElem_drop]; exact hi
/-- A slice of two slices. -/
theorem rowss_two {w : World} {g : Nat} {u v : Value} {xs ys : List Int} (h0 : w.cell? ⟨g, 0, none⟩ = some u) (h1 : w.cell? ⟨g, 1, none⟩ = some v) (hu : Ints w u xs) (hv : Ints w v ys) : Rowss w (.slice (some ⟨g, 0, none⟩) 2 2) [xs, ys] := by
  refine ⟨[u, v], ⟨rfl, _, _, rfl, Nat.le_refl _, by unfold maxLen; decide, fun _ => ⟨g, 0, rfl, fun j y hy => ?_⟩⟩, fun k hk => ?_⟩
  · match j with
    | 0 => simp at hy; subst hy; exact h0
    | 1 => simp at hy; subst hy; exact h1
    | j + 2 => simp at hy
  · match k with
    | 0 => exact ⟨u, rfl, hu⟩
    | 1 => exact ⟨v, rfl, hv⟩
    | k + 2 => exact absurd hk (by simp)

theorem ints_val {w : World} {v : Value} {xs : List Int} (h : Ints w v xs) : ∃ n A c, v = Value.slice A n c := by
  obtain ⟨A, c, h, _⟩ := h.open; exact ⟨_, A, c, h⟩

set_option maxHeartbeats 2000000 in
theorem joinNested_any (k : Int) (u : Value) (rows : List (List Int)) (w : World) (hu : Rowss w u rows) (hb : bulk rows ≤ 1048576) :
    Calls Try.prog 9 #[u, .int .i64 k] w fun e w' => e = .returned (.bool true) ∧ Bl w w' := by
  have HU := Lib.hid hu
  obtain ⟨A, c, rfl, hc, hm, _⟩ := hu.open
  unfold maxLen at hm
  clear hu
  have hs : bulk rows = rows.length + sumLen rows := rfl
  have hs1 : sumLen rows ≤ 1048576 := by omega
  have hs2 : rows.length ≤ 1048576 := by omega
  clear hs hb
  go_enter Try.func9, Try.ntmps9
  go_wp2_with fail
  refine (At_ix k (rows.length + 1) _ (by omega) (by omega)).mono ?_
  rintro e w1 ⟨rfl, rfl⟩
  have hk := ix_lt k (n := rows.length + 1) (by omega)
  generalize ix k (rows.length + 1) = K at *
  have hk1 : K ≤ rows.length := by omega
  have hk2 : K ≤ c := by omega
  have t1 : sumLen (rows.take K) ≤ 1048576 := Nat.le_trans (sumLen_take_le rows K) hs1
  have t2 : (rows.take K).length ≤ 1048576 := by rw [List.length_take]; omega
  have t3 : sumLen (rows.drop K) ≤ 1048576 := by
    have : sumLen rows = sumLen (rows.take K) + sumLen (rows.drop K) := by
      unfold sumLen
      conv => lhs; rw [← List.take_append_drop K rows, List.map_append, List.sum_append]
    omega
  have t4 : (rows.drop K).length ≤ 1048576 := by rw [List.length_drop]; omega
  have HF : Hid ([(rows.take K).flatten, (rows.drop K).flatten].flatten = rows.flatten) := by
    show [(rows.take K).flatten, (rows.drop K).flatten].flatten = rows.flatten
    conv => rhs; rw [← List.take_append_drop K rows, List.flatten_append]
    simp
  have t5 : sumLen [(rows.take K).flatten, (rows.drop K).flatten] ≤ 17592186043904 := by
    unfold sumLen at *
    simp only [List.map_cons, List.map_nil, List.sum_cons, List.sum_nil, flatten_len]
    unfold sumLen
    omega
  have T1 := Lib.hid t1
  have T2 := Lib.hid t2
  have T3 := Lib.hid t3
  have T4 := Lib.hid t4
  have T5 := Lib.hid t5
  have T6 : Hid (sumLen [(rows.take K).flatten, (rows.drop K).flatten] < 17592186043904) := by
    show sumLen [(rows.take K).flatten, (rows.drop K).flatten] < 17592186043904
    have : sumLen [(rows.take K).flatten, (rows.drop K).flatten] = sumLen (rows.take K) + sumLen (rows.drop K) := by
      conv => lhs; unfold sumLen
      simp only [List.map_cons, List.map_nil, List.sum_cons, List.sum_nil, flatten_len, Nat.add_zero]
    omega
  clear t1 t2 t3 t4 t5
  go_wp2_with fail
  refine (JoinList_spec _ rows _ HU.out (by omega)).mono ?_
  rintro e w2 ⟨v2, rfl, o2, b2⟩
  have O2 := Lib.hid (OwnI.ints o2)
  have B2 := Lib.hid b2
  clear o2 b2
  go_wp2
  go_region_law (first
    | (go_simp
       go_at_call_of 19 (Value.slice A K c)
       refine (JoinRing_impl _ (rows.take K) _ ((HU.out.bl (bl_trans B2.out (bl_drew (bl_refl w2)))).take K hk1) (Nat.lt_of_le_of_lt T1.out (by omega))).mono ?_
       rintro e w3 ⟨v3, rfl, o3, b3⟩
       have O3 := Lib.hid (OwnX.ints o3)
       have B3 := Lib.hid (bl_trans (bl_drew (bl_refl w2)) b3)
       clear o3 b3
       obtain ⟨nn3, A3, cc3, hv3⟩ := ints_val O3.out
       subst hv3)
    | (go_simp
       go_at_call_of 18 (Value.slice (some ⟨w4.heap.size, 0, none⟩) 2 2)
       refine (JoinList_impl _ _ _ (rowss_two (World.cell?_alloc_new w4 _ _ 0) (World.cell?_alloc_new w4 _ _ 1) (O3.out.bl (bl_trans B4.out (bl_alloc (bl_refl w4) _))) (O4.out.bl (bl_alloc (bl_refl w4) _))) T5.out (by simp)).mono ?_
       rintro e w5 ⟨v5, rfl, o5, b5⟩
       rw [HF.out] at o5
       have O5 := Lib.hid (OwnI.ints o5)
       have B5 := Lib.hid (bl_trans (bl_trans B3.out B4.out) (bl_trans (bl_alloc (bl_refl w4) _) b5))
       clear o5 b5)
    | (go_simp
       go_at_call_of 12 v5
       refine (same_true v5 v2 _ _ O5.out (O2.out.bl B5.out)).mono ?_
       rintro e w6 ⟨rfl, b6⟩
       have B6 := Lib.hid (bl_trans B5.out b6)
       clear b6)
    | (go_simp
       go_at_call_of 18 (Value.slice A K c)
       refine (JoinList_impl _ (rows.take K) _ ((HU.out.bl (bl_trans B2.out B6.out)).take K hk1) (Nat.le_trans T1.out (by omega)) (Nat.le_trans T2.out (by omega))).mono ?_
       rintro e w7 ⟨v7, rfl, o7, b7⟩
       have O7 := Lib.hid (OwnI.ints o7)
       have B7 := Lib.hid b7
       clear o7 b7
       obtain ⟨nn7, A7, cc7, hv7⟩ := ints_val O7.out
       subst hv7)
    | (go_simp
       go_at_call_of 19 (Value.slice (some ⟨w8.heap.size, 0, none⟩) 2 2)
       refine (JoinRing_impl _ _ _ (rowss_two (World.cell?_alloc_new w8 _ _ 0) (World.cell?_alloc_new w8 _ _ 1) (O7.out.bl (bl_trans B8.out (bl_alloc (bl_refl w8) _))) (O8.out.bl (bl_alloc (bl_refl w8) _))) T6.out).mono ?_
       rintro e w9 ⟨v9, rfl, o9, b9⟩
       rw [HF.out] at o9
       have O9 := Lib.hid (OwnX.ints o9)
       have B9 := Lib.hid (bl_trans B6.out (bl_trans (bl_trans B7.out B8.out) (bl_trans (bl_alloc (bl_refl w8) _) b9)))
       clear o9 b9)
    | (go_simp
       go_at_call_of 12 v9
       refine (same_true v9 v2 _ _ O9.out (O2.out.bl B9.out)).mono ?_
       rintro e w10 ⟨rfl, b10⟩
       have B10 := Lib.hid (bl_trans B2.out (bl_trans B9.out b10))
       clear b10)
    | (go_simp
       go_at_call 19
       refine (JoinRing_impl _ (rows.drop K) _ ((HU.out.bl (bl_trans B2.out (bl_trans B6.out B7.out))).drop K hk1) (Nat.lt_of_le_of_lt T3.out (by omega))).mono ?_
       rintro e w8 ⟨v8, rfl, o8, b8⟩
       have O8 := Lib.hid (OwnX.ints o8)
       have B8 := Lib.hid b8
       clear o8 b8
       obtain ⟨nn8, A8, cc8, hv8⟩ := ints_val O8.out
       subst hv8)
    | (go_simp
       go_at_call 18
       refine (JoinList_impl _ (rows.drop K) _ ((HU.out.bl (bl_trans B2.out B3.out)).drop K hk1) (Nat.le_trans T3.out (by omega)) (Nat.le_trans T4.out (by omega))).mono ?_
       rintro e w4 ⟨v4, rfl, o4, b4⟩
       have O4 := Lib.hid (OwnI.ints o4)
       have B4 := Lib.hid b4
       clear o4 b4
       obtain ⟨nn4, A4, cc4, hv4⟩ := ints_val O4.out
       subst hv4))
  all_goals
    go_wp2
  all_goals
    go_ret
    exact ⟨rfl, B10.out⟩

end Go.Proofs.Ytgjackalcajmjaa
