/- The walks of the sorts: of the reference, and over a ring. -/
import Derived.Test.YthomhekbikpcfaaSeq
import Derived.Test.YthomhekbikpcfaaSortPure
namespace Go.Proofs.Ythomhekbikpcfaa
open Go.RowKit

set_option maxHeartbeats 1000000 in
theorem SortList_spec (v : Value) (xs : List Int) (w : World) (hv : Ints w v xs) (hl : xs.length ≤ 17592186043904) : Calls Try.prog 24 #[v] w (NewInts w (sorted xs)) := by
  obtain ⟨A, c, rfl, hc, hm, hv⟩ := hv.open
  have HV := Lib.hid hv
  clear hv
  unfold maxLen at hm
  go_enter Try.func24, Try.ntmps24
  go_wp2
  go_loopw [3, 5, 6, 10] (fun o _ _ i wr => ∃ k : Nat, k ≤ xs.length ∧ i = .int .i64 k ∧ OwnI wr w.heap.size o (sorted (xs.take k)) ∧ Bl w wr) (fun _ _ _ i _ => xs.length - (intOf i).toNat)
  case atStart => exact ⟨0, Nat.zero_le _, rfl, own_empty _ _ _, bl_alloc (bl_refl _) _⟩
  case round =>
    obtain ⟨k, hk, rfl, hown, hbl⟩ := hrel
    have HO := Lib.hid hown
    have HB := Lib.hid hbl
    clear hown hbl
    have hsl := sorted_len (xs.take k)
    rw [List.length_take, Nat.min_eq_left hk] at hsl
    by_cases hlt : k < xs.length
    · obtain ⟨b, off, rfl, hc1⟩ := HV.out k hlt
      have r1 := (HB.out.cell (World.block_lt_of_cell? _ _ hc1)).trans hc1
      clear hc1
      have HT := Lib.hid (sorted_take xs k hlt)
      generalize xs[k] = x at *
      generalize sorted (xs.take k) = l at *
      have HL := Lib.hid hsl
      clear hsl
      obtain ⟨A2, c2, hv2, hn2, hm2, hA2⟩ := (OwnI.ints HO.out).open
      unfold maxLen at hm2
      have HA2 := Lib.hid hA2
      clear hA2
      have HV2 := Lib.hid hv2
      rw [hv2]
      clear hv2
      go_wp2
      obtain ⟨wo, rfl⟩ : ∃ wo : World, wo = wr := ⟨_, rfl⟩
      go_loop [6] (fun i => ∃ j : Nat, j ≤ l.length ∧ i = .int .i64 j ∧ posB l x j = posB l x l.length) (fun i => (intOf i).toNat)
      case atStart => exact ⟨l.length, Nat.le_refl _, rfl, rfl⟩
      case round =>
        obtain ⟨j, hj, rfl, hp⟩ := hrel
        by_cases hj0 : j = 0
        · subst hj0
          have hp0 : posB l x 0 = 0 := rfl
          rw [hp0] at hp
          have HP : Hid ((0 : Nat) = posB l x l.length) := hp
          clear hp hp0
          go_wp2_with fail
          rw [← HV2.out]
          refine (with_any _ l _ x _ (OwnI.ints HO.out) (by omega) (by have := HL.out; omega)).mono ?_
          rintro e w2 ⟨v3, rfl, o3, b3⟩
          have O3 := Lib.hid (own_base o3 HB.out.size)
          have B3 := Lib.hid (bl_trans HB.out b3)
          clear o3 b3
          go_wp2
          go_roundw
          case rel => exact ⟨k + 1, by omega, by go_num, by rw [HT.out]; unfold insS; rw [← HP.out]; exact O3.out, B3.out⟩
          case measure => simp [intOf]; omega
        · obtain ⟨i, rfl⟩ : ∃ i, j = i + 1 := ⟨j - 1, by omega⟩
          have hil : i < l.length := by omega
          obtain ⟨b2, off2, hA3, hc3⟩ := HA2.out i hil
          subst hA3
          have e1 : ((i + 1 : Nat) : Int) = (i : Int) + 1 := by omega
          rw [e1]
          clear e1
          by_cases hgt : x < l[i]
          · rw [posB_go hil hgt] at hp
            have HP := Lib.hid hp
            clear hp
            generalize l[i] = y at *
            go_wp2
            go_round
            case rel => exact ⟨i, by omega, by go_num, HP.out⟩
            case measure => simp [intOf]
          · rw [posB_stop hil hgt] at hp
            have HP := Lib.hid hp
            clear hp
            generalize l[i] = y at *
            go_wp2_with fail
            rw [← HV2.out]
            have e1 : (i : Int) + 1 = ((i + 1 : Nat) : Int) := by omega
            rw [e1]
            clear e1
            refine (with_any _ l (i + 1) x _ (OwnI.ints HO.out) (by omega) (by have := HL.out; omega)).mono ?_
            rintro e w2 ⟨v3, rfl, o3, b3⟩
            have O3 := Lib.hid (own_base o3 HB.out.size)
            have B3 := Lib.hid (bl_trans HB.out b3)
            clear o3 b3
            go_wp2
            go_roundw
            case rel => exact ⟨k + 1, by omega, by go_num, by rw [HT.out]; unfold insS; rw [← HP.out]; exact O3.out, B3.out⟩
            case measure => simp [intOf]; omega
    · obtain rfl : k = xs.length := by omega
      rw [List.take_length] at HO
      go_wp2
      go_ret
      exact ⟨_, rfl, HO.out, HB.out⟩

end Go.Proofs.Ythomhekbikpcfaa
