/- The walks of the laws' functions on slices of ints. -/
import Derived.Test.YtlcppgiahfobgaaMem
namespace Go.Proofs.Ytlcppgiahfobgaa
open Go.RowKit

set_option maxHeartbeats 400000 in
theorem eqIntS_true (v u : Value) (xs : List Int) (w : World) (hv : Ints w v xs) (hu : Ints w u xs) :
    Calls Try.prog 19 #[v, u] w fun e w' => e = .returned (.bool true) ∧ Bl w w' := by
  obtain ⟨A, c, rfl, hc, hm, hv⟩ := hv.open
  obtain ⟨B, d, rfl, hd, hm2, hu⟩ := hu.open
  have HV := Lib.hid hv
  have HU := Lib.hid hu
  clear hv hu
  unfold maxLen at hm hm2
  go_enter Try.func19, Try.ntmps19
  go_wp2
  go_loopw [5] (fun i wr => ∃ k : Nat, k ≤ xs.length ∧ i = .int .i64 k ∧ ∃ n, wr = w.drewN n) (fun i _ => xs.length - (intOf i).toNat)
  case atStart => exact ⟨0, Nat.zero_le _, rfl, 0, rfl⟩
  case round =>
    obtain ⟨k, hk, rfl, n, rfl⟩ := hrel
    by_cases hlt : k < xs.length
    · obtain ⟨b, off, rfl, hc1⟩ := HV.out k hlt
      obtain ⟨b2, off2, rfl, hc2⟩ := HU.out k hlt
      go_wp2
      go_quiet (fail)
      go_wp2
      go_roundw
      case rel => exact ⟨k + 1, by omega, by go_num, _, rfl⟩
      case measure => simp [intOf]; omega
    · go_wp2
      go_ret
      exact ⟨rfl, bl_drewN (bl_refl _) _⟩

set_option maxHeartbeats 400000 in
theorem heldIntS_marks (v : Value) (k : Int) (n : Nat) (w : World) (hv : Ints w v (marks k n)) (h0 : 0 ≤ k) (hk : k + n ≤ 4611686018427387904) :
    Calls Try.prog 23 #[v, .int .i64 k] w fun e w' => e = .returned (.int .i64 (k + n)) ∧ w = w' := by
  obtain ⟨A, c, rfl, hc, hm, hv⟩ := hv.open
  rw [marks_len] at *
  have HV := Lib.hid hv
  clear hv
  go_enter Try.func23, Try.ntmps23
  go_wp2
  go_loop [1, 5] (fun t i => ∃ j : Nat, j ≤ n ∧ i = .int .i64 j ∧ t = .int .i64 (k + j)) (fun _ i => n - (intOf i).toNat)
  case atStart => exact ⟨0, Nat.zero_le _, rfl, by simp⟩
  case round =>
    obtain ⟨j, hj, rfl, rfl⟩ := hrel
    by_cases hlt : j < n
    · obtain ⟨b, off, rfl, hc1⟩ := HV.out j (by rw [marks_len]; exact hlt)
      rw [marks_get _ hlt] at hc1
      go_wp2
      go_round
      case rel => exact ⟨j + 1, by omega, by go_num, by go_num⟩
      case measure => simp [intOf]; omega
    · obtain rfl : j = n := by omega
      go_wp2
      go_ret
      exact ⟨rfl, rfl⟩

set_option maxHeartbeats 400000 in
theorem markIntS_own (v : Value) (base : Nat) (xs : List Int) (k : Int) (w : World) (hv : OwnI w base v xs) (h0 : 0 ≤ k) (hk : k + xs.length ≤ 4611686018427387904) :
    Calls Try.prog 22 #[v, .int .i64 k] w fun e w' => e = .returned (.int .i64 (k + xs.length)) ∧ OwnI w' base v (marks k xs.length) ∧ Chg (fun b => v.ownBlock = some b) w w' := by
  obtain ⟨A, c, rfl, hc, hm, hA⟩ := own_open hv
  have HV := Lib.hid hv
  have HA := Lib.hid hA
  clear hv hA
  go_enter Try.func22, Try.ntmps22
  go_wp2
  go_loopw [1, 5] (fun t i wr => ∃ j : Nat, j ≤ xs.length ∧ i = .int .i64 j ∧ t = .int .i64 (k + j) ∧ wr.ownsRow base 3 1 (.slice A xs.length c) xs.length ((marks k j ++ xs.drop j).map (Value.int .i64)) ∧ Chg (fun b => (Value.slice A xs.length c).ownBlock = some b) w wr) (fun _ i _ => xs.length - (intOf i).toNat)
  case atStart => exact ⟨0, Nat.zero_le _, rfl, by simp, HV.out, Chg.refl _ _⟩
  case round =>
    obtain ⟨j, hj, rfl, rfl, hown, hchg⟩ := hrel
    by_cases hlt : j < xs.length
    · obtain ⟨g, rfl, hg, _⟩ := HA.out (by omega)
      have hc1 := own_cell hown (k := j) (by omega)
      have hf1 := own_frozen hown j
      have H1 := Lib.hid (own_set hown (k := j) (.int .i64 (k + j)))
      have H2 := Lib.hid (hchg.setCell (p := ⟨g, j, none⟩) (by simp [Value.ownBlock]) (.int .i64 (k + j)))
      clear hown hchg
      go_wp2
      go_roundw
      case rel =>
        refine ⟨j + 1, by omega, by go_num, by go_num, ?_, H2.out⟩
        have := H1.out
        rwa [← List.map_set, set_mid _ _ _ _ (marks_len _ _) hlt, ← marks_succ] at this
      case measure => simp [intOf]; omega
    · obtain rfl : j = xs.length := by omega
      have H1 := Lib.hid hown
      have H2 := Lib.hid hchg
      clear hown hchg
      go_wp2
      go_ret
      refine ⟨rfl, ?_, H2.out⟩
      have := H1.out
      rw [List.drop_length, List.append_nil] at this
      unfold OwnI
      rw [marks_len]
      exact this

end Go.Proofs.Ytlcppgiahfobgaa
