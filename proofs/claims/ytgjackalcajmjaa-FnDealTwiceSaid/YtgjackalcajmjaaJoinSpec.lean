/- The walk of JoinList's reference. -/
import Derived.Test.YtgjackalcajmjaaRowsS2
namespace Go.Proofs.Ytgjackalcajmjaa
open Go.RowKit

theorem flatten_take (rows : List (List Int)) (k : Nat) (hk : k < rows.length) : (rows.take (k + 1)).flatten = (rows.take k).flatten ++ rows[k] := by
  rw [List.take_succ_eq_append_getElem hk, List.flatten_append]; simp
theorem flatten_len (rows : List (List Int)) : rows.flatten.length = sumLen rows := by rw [List.length_flatten]; rfl

theorem one_ints' (xs : List Int) : ∀ y ∈ xs.map (Value.int .i64), y.oneCell' = true := by
  intro y hy
  obtain ⟨x, _, rfl⟩ := List.mem_map.1 hy
  rfl

set_option maxHeartbeats 1000000 in
theorem JoinList_spec (v : Value) (rows : List (List Int)) (w : World) (hv : Rowss w v rows) (hl : sumLen rows ≤ 17592186043904) :
    Calls Try.prog 20 #[v] w (NewInts w rows.flatten) := by
  obtain ⟨A, c, rfl, hc, hm, hv⟩ := hv.open
  obtain ⟨i0, hi, hz0, hz1, hz2⟩ := info_parts intInfo
  have HV := Lib.hid hv
  clear hv
  unfold maxLen at hm
  go_enter Try.func20, Try.ntmps20
  go_wp2
  go_loopw [3, 5, 9] (fun o _ i wr => ∃ k : Nat, k ≤ rows.length ∧ i = .int .i64 k ∧ OwnI wr w.heap.size o (rows.take k).flatten ∧ Bl w wr) (fun _ _ i _ => rows.length - (intOf i).toNat)
  case atStart => exact ⟨0, Nat.zero_le _, rfl, own_empty _ _ _, bl_alloc (bl_refl _) _⟩
  case round =>
    obtain ⟨k, hk, rfl, hown, hbl⟩ := hrel
    have HO := Lib.hid hown
    have HB := Lib.hid hbl
    clear hown hbl
    have hfl := flatten_len (rows.take k)
    have hsl := sumLen_take_le rows k
    by_cases hlt : k < rows.length
    · obtain ⟨b, off, u, rfl, hc1, hu⟩ := HV.out k hlt
      have r1 := (HB.out.cell (World.block_lt_of_cell? _ _ hc1)).trans hc1
      have HU := Lib.hid (hu.bl HB.out)
      obtain ⟨A2, c2, hu2, _, _, _⟩ := hu.open
      subst hu2
      have HF := Lib.hid (flatten_take rows k hlt)
      have hs := sumLen_take rows k hlt
      have hs2 := sumLen_take_le rows (k + 1)
      rw [hs] at hs2
      have HFL := Lib.hid hfl
      clear hc1 hu hs hsl hfl
      generalize rows[k] = row at *
      generalize sumLen (rows.take k) = S at *
      generalize (rows.take k).flatten = ys at *
      go_wp2_with (at_builtin; go_must (refine wpList_cat wr rfl (.tmp 13) (.tmp 14) _ rfl w.heap.size 3 i0 _ 1 8 Try.underlying22 hi hz0 hz1 hz2 rfl (by decide) u3 ys.length (ys.map (Value.int .i64)) rfl HO.out _ row.length (row.map (Value.int .i64)) rfl HU.out (one_ints' _) (by have := HFL.out; unfold maxLen; omega) (by have := HFL.out; omega) HB.out.size ?_); intro v1 w4 hown4 hchg4 hloc4)
      have HO4 := Lib.hid hown4
      have HB4 := Lib.hid (bl_own HB.out HO.out hchg4)
      clear hown4 hchg4 hloc4
      go_roundw
      case rel =>
        refine ⟨k + 1, by omega, by go_num, ?_, HB4.out⟩
        rw [HF.out]
        unfold OwnI
        rw [List.length_append, List.map_append]
        exact HO4.out
      case measure => simp [intOf]; omega
    · obtain rfl : k = rows.length := by omega
      rw [List.take_length] at HO
      clear hfl hsl
      go_wp2
      go_ret
      exact ⟨_, rfl, HO.out, HB.out⟩


end Go.Proofs.Ytgjackalcajmjaa
