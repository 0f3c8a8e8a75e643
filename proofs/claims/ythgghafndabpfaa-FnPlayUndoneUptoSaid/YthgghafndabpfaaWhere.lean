/- The walk of where: the move that leads a number back to where it stands in an order. -/
import Derived.Test.YthgghafndabpfaaPlayMore
namespace Go.Proofs.Ythgghafndabpfaa
open Go.RowKit

set_option maxRecDepth 100000 in
set_option maxHeartbeats 1000000 in
theorem where_any (v : Value) (xs : List Int) (e : Int) (w : World) (hv : Ints w v xs) (hnd : xs.Nodup) (he : e ∈ xs) :
    Calls Try.prog 7 #[v, .int .i64 e] w fun r w' => r = .returned (.agg #[.int .i64 ((backOf xs e).1 : Nat), .int .i64 (backOf xs e).2.1, .int .i64 (backOf xs e).2.2]) ∧ Bl w w' := by
  obtain ⟨A, c, rfl, hc, hm, hv⟩ := hv.open
  have HV := Lib.hid hv
  clear hv
  unfold maxLen at hm
  obtain ⟨d, hd⟩ : ∃ d, xs.idxOf e = d := ⟨_, rfl⟩
  have hdl : d < xs.length := by rw [← hd]; exact List.idxOf_lt_length_of_mem he
  have hde : xs[d] = e := by subst hd; exact List.getElem_idxOf hdl
  have HNE : Hid (∀ k (hk : k < xs.length), k ≠ d → xs[k] ≠ e) := fun k hk hne h => hne ((List.getElem_inj hnd).1 (h.trans hde.symm))
  have HB : Hid (backOf xs e = if d = 0 then (0, e, 0) else (2, e, xs.getD (d - 1) 0)) := by show _ = _; unfold backOf; rw [hd]
  have HDE := Lib.hid hde
  clear hd hde hnd he
  go_enter Try.func7, Try.ntmps7
  go_wp2
  go_loop [5, 6, 9] (fun _ _ i => ∃ k : Nat, k ≤ xs.length ∧ (k ≤ d ∨ d = 0) ∧ i = .int .i64 k) (fun _ _ i => xs.length - (intOf i).toNat)
  case atStart => exact ⟨0, Nat.zero_le _, .inl (Nat.zero_le _), rfl⟩
  case round =>
    obtain ⟨k, hk, hkd, rfl⟩ := hrel
    by_cases hlt : k < xs.length
    · obtain ⟨b, off, rfl, hc1⟩ := HV.out k hlt
      have hbl : Bl w (w.alloc (.cells #[.int .i64 0, .int .i64 0, .int .i64 0] 27)) := bl_alloc (bl_refl w) _
      replace hc1 := (hbl.cell (World.block_lt_of_cell? _ _ hc1)).trans hc1
      by_cases hke : k = d
      · subst hke
        have HX := HDE.out
        rw [HX] at hc1
        clear HX HDE HNE hkd
        by_cases h0 : k = 0
        · subst h0
          rw [Nat.add_zero] at hc1
          go_wp2
          go_round
          case rel => exact ⟨0 + 1, by omega, .inr (by trivial), by go_num⟩
          case measure => simp [intOf]; omega
        · have hp : 0 < k := by omega
          obtain ⟨b', off', hb', hc2⟩ := HV.out (k - 1) (by omega)
          injection hb' with hb'
          injection hb' with hb1 hb2
          subst hb1 hb2
          replace hc2 := (hbl.cell (World.block_lt_of_cell? _ _ hc2)).trans hc2
          have HG : Hid (xs.getD (k - 1) 0 = xs[k - 1]) := by
            show _ = _
            rw [List.getD_eq_getElem?_getD, List.getElem?_eq_getElem (by omega)]; rfl
          generalize xs[k - 1] = y at *
          go_wp2
          exact bodyPost_ret (v := .agg #[.int .i64 2, .int .i64 e, .int .i64 y]) (by simp [results, Try.results7, go_sem]) rfl ⟨by rw [HB.out, if_neg h0]; simp only [HG.out]; rfl, bl_alloc (bl_refl _) _⟩
      · have hne := HNE.out k hlt hke
        generalize xs[k] = y at *
        go_wp2
        go_round
        case rel => exact ⟨k + 1, by omega, by omega, by go_num⟩
        case measure => simp [intOf]; omega
    · obtain rfl : d = 0 := by omega
      go_wp2
      exact bodyPost_ret (v := .agg #[.int .i64 0, .int .i64 e, .int .i64 0]) (by simp [results, Try.results7, go_sem]) rfl ⟨by rw [HB.out]; simp, bl_alloc (bl_refl _) _⟩

end Go.Proofs.Ythgghafndabpfaa
