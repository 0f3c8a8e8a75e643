/- The walks of the laws' functions on slices of ints. -/
import Derived.Test.YtebkmegkdcnfaaaMem
namespace Go.Proofs.Ytebkmegkdcnfaaa
open Go.RowKit

set_option maxRecDepth 100000 in
set_option maxHeartbeats 400000 in
theorem eqIntS_true (v u : Value) (xs : List Int) (w : World) (hv : Ints w v xs) (hu : Ints w u xs) :
    Calls Try.prog 33 #[v, u] w fun e w' => e = .returned (.bool true) ∧ Bl w w' := by
  obtain ⟨A, c, rfl, hc, hm, hv⟩ := hv.open
  obtain ⟨B, d, rfl, hd, hm2, hu⟩ := hu.open
  have HV := Lib.hid hv
  have HU := Lib.hid hu
  clear hv hu
  unfold maxLen at hm hm2
  go_enter Try.func33, Try.ntmps33
  go_wp2
  go_loopw [5] (fun i wr => ∃ k : Nat, k ≤ xs.length ∧ i = .int .i64 k ∧ ∃ n, wr = w.drewN n) (fun i _ => xs.length - (intOf i).toNat)
  case atStart => exact ⟨0, Nat.zero_le _, rfl, 0, rfl⟩
  case round =>
    obtain ⟨k, hk, rfl, n, rfl⟩ := hrel
    by_cases hlt : k < xs.length
    · obtain ⟨b, off, rfl, hc1⟩ := HV.out k hlt
      obtain ⟨b2, off2, rfl, hc2⟩ := HU.out k hlt
      go_wp2
      go_quiet (fail)
      go_wp2
      go_roundw
      case rel => exact ⟨k + 1, by omega, by go_num, _, rfl⟩
      case measure => simp [intOf]; omega
    · go_wp2
      go_ret
      exact ⟨rfl, bl_drewN (bl_refl _) _⟩

set_option maxRecDepth 100000 in
set_option maxHeartbeats 400000 in
theorem heldIntS_marks (v : Value) (k : Int) (n : Nat) (w : World) (hv : Ints w v (marks k n)) (h0 : 0 ≤ k) (hk : k + n ≤ 4611686018427387904) :
    Calls Try.prog 35 #[v, .int .i64 k] w fun e w' => e = .returned (.int .i64 (k + n)) ∧ w = w' := by
  obtain ⟨A, c, rfl, hc, hm, hv⟩ := hv.open
  rw [marks_len] at *
  have HV := Lib.hid hv
  clear hv
  go_enter Try.func35, Try.ntmps35
  go_wp2
  go_loop [1, 5] (fun t i => ∃ j : Nat, j ≤ n ∧ i = .int .i64 j ∧ t = .int .i64 (k + j)) (fun _ i => n - (intOf i).toNat)
  case atStart => exact ⟨0, Nat.zero_le _, rfl, by simp⟩
  case round =>
    obtain ⟨j, hj, rfl, rfl⟩ := hrel
    by_cases hlt : j < n
    · obtain ⟨b, off, rfl, hc1⟩ := HV.out j (by rw [marks_len]; exact hlt)
      rw [marks_get _ hlt] at hc1
      go_wp2
      go_round
      case rel => exact ⟨j + 1, by omega, by go_num, by go_num⟩
      case measure => simp [intOf]; omega
    · obtain rfl : j = n := by omega
      go_wp2
      go_ret
      exact ⟨rfl, rfl⟩

set_option maxRecDepth 100000 in
set_option maxHeartbeats 400000 in
theorem markIntS_own (v : Value) (base : Nat) (xs : List Int) (k : Int) (w : World) (hv : OwnI w base v xs) (h0 : 0 ≤ k) (hk : k + xs.length ≤ 4611686018427387904) :
    Calls Try.prog 34 #[v, .int .i64 k] w fun e w' => e = .returned (.int .i64 (k + xs.length)) ∧ OwnI w' base v (marks k xs.length) ∧ Chg (fun b => v.ownBlock = some b) w w' := by
  obtain ⟨A, c, rfl, hc, hm, hA⟩ := own_open hv
  have HV := Lib.hid hv
  have HA := Lib.hid hA
  clear hv hA
  go_enter Try.func34, Try.ntmps34
  go_wp2
  go_loopw [1, 5] (fun t i wr => ∃ j : Nat, j ≤ xs.length ∧ i = .int .i64 j ∧ t = .int .i64 (k + j) ∧ wr.ownsRow base 3 1 (.slice A xs.length c) xs.length ((marks k j ++ xs.drop j).map (Value.int .i64)) ∧ Chg (fun b => (Value.slice A xs.length c).ownBlock = some b) w wr) (fun _ i _ => xs.length - (intOf i).toNat)
  case atStart => exact ⟨0, Nat.zero_le _, rfl, by simp, HV.out, Chg.refl _ _⟩
  case round =>
    obtain ⟨j, hj, rfl, rfl, hown, hchg⟩ := hrel
    by_cases hlt : j < xs.length
    · obtain ⟨g, rfl, hg, _⟩ := HA.out (by omega)
      have hc1 := own_cell hown (k := j) (by omega)
      have hf1 := own_frozen hown j
      have H1 := Lib.hid (own_set hown (k := j) (.int .i64 (k + j)))
      have H2 := Lib.hid (hchg.setCell (p := ⟨g, j, none⟩) (by simp [Value.ownBlock]) (.int .i64 (k + j)))
      clear hown hchg
      go_wp2
      go_roundw
      case rel =>
        refine ⟨j + 1, by omega, by go_num, by go_num, ?_, H2.out⟩
        have := H1.out
        rwa [← List.map_set, set_mid _ _ _ _ (marks_len _ _) hlt, ← marks_succ] at this
      case measure => simp [intOf]; omega
    · obtain rfl : j = xs.length := by omega
      have H1 := Lib.hid hown
      have H2 := Lib.hid hchg
      clear hown hchg
      go_wp2
      go_ret
      refine ⟨rfl, ?_, H2.out⟩
      have := H1.out
      rw [List.drop_length, List.append_nil] at this
      unfold OwnI
      rw [marks_len]
      exact this

set_option maxRecDepth 100000 in
set_option maxHeartbeats 400000 in
theorem toIntS_any (v : Value) (xs : List Int) (w : World) (hv : Ints w v xs) (hl : xs.length ≤ 1048576) :
    Calls Try.prog 31 #[v] w (NewInts w xs) := by
  obtain ⟨A, c, rfl, hc, hm, hv⟩ := hv.open
  obtain ⟨i0, hi, hz0, hz1, hz2⟩ := info_parts intInfo
  have HV := Lib.hid hv
  clear hv
  unfold maxLen at hm
  go_enter Try.func31, Try.ntmps31
  go_wp2_with (at_make; refine wpList_make_full _ rfl _ _ 23 rfl w.heap.size 3 i0 _ 1 Try.underlying23 hi hz0 hz1 _ _ _ _ xs.length rfl rfl rfl rfl (by rw [hz2]; omega) (by unfold maxLen; omega) (Nat.le_refl _) ?_; intro w1 hown hg)
  have hlen : (madeCells (Value.int .i64 0).cells (xs.length * 1)).toList.length = xs.length := by simp [size_madeCells]
  generalize (madeCells (Value.int .i64 0).cells (xs.length * 1)).toList = Z at hown hlen
  have HZ := Lib.hid hlen
  have HO := Lib.hid hown
  have HB := Lib.hid ((Below.refl _ _).grown hg (Nat.le_refl _) (by simp))
  clear hown hg hlen
  go_loopw [4] (fun i wr => ∃ k : Nat, k ≤ xs.length ∧ i = .int .i64 k ∧ wr.ownsRow w.heap.size 3 1 (.slice (some ⟨w.heap.size, 0, none⟩) xs.length xs.length) xs.length ((xs.take k).map (Value.int .i64) ++ Z.drop k) ∧ Bl w wr) (fun i _ => xs.length - (intOf i).toNat)
  case atStart => exact ⟨0, Nat.zero_le _, rfl, HO.out, HB.out⟩
  case round =>
    obtain ⟨k, hk, rfl, hown, hbl⟩ := hrel
    have HO1 := Lib.hid hown
    have HB1 := Lib.hid hbl
    clear hown hbl
    by_cases hlt : k < xs.length
    · obtain ⟨b, off, rfl, hc1⟩ := HV.out k hlt
      have hr1 := (HB1.out.cell (World.block_lt_of_cell? _ _ hc1)).trans hc1
      clear hc1
      obtain ⟨x1, hx1⟩ : ∃ x, wr.cell? ⟨w.heap.size, k, none⟩ = some x := ⟨_, own_cell HO1.out (by omega)⟩
      have hf1 := own_frozen HO1.out k
      have H1 := own_set (k := k) HO1.out (.int .i64 xs[k])
      rw [set_mid _ _ _ _ (by rw [List.length_map, List.length_take]; omega) (by rw [HZ.out]; omega)] at H1
      have e : (xs.take k).map (Value.int .i64) ++ [Value.int .i64 xs[k]] = (xs.take (k + 1)).map (Value.int .i64) := by rw [List.take_succ_eq_append_getElem hlt, List.map_append]; rfl
      rw [e] at H1
      clear e
      have HH := Lib.hid H1
      have HB2 := Lib.hid (bl_set (p := ⟨w.heap.size, k, none⟩) HB1.out (Nat.le_refl _) (.int .i64 xs[k]))
      clear H1
      generalize xs[k] = y at *
      go_wp2
      go_roundw
      case rel => exact ⟨k + 1, by omega, by go_num, HH.out, HB2.out⟩
      case measure => simp [intOf]; omega
    · obtain rfl : k = xs.length := by omega
      go_wp2
      go_ret
      refine ⟨_, rfl, ?_, HB1.out⟩
      have := HO1.out
      rwa [List.take_length, ← HZ.out, List.drop_length, List.append_nil, HZ.out] at this

end Go.Proofs.Ytebkmegkdcnfaaa
