/- FnLinksChain returns true: the walk of the law. -/
import Derived.Test.YtebkmegkdcnfaaaCyclesNext
import Derived.Test.YtebkmegkdcnfaaaChainPure
import Derived.Test.YtebkmegkdcnfaaaTurnLaws
import Derived.Test.YtebkmegkdcnfaaaLinksProduct
import Derived.Test.YtebkmegkdcnfaaaCircleLaws
import Derived.Test.YtebkmegkdcnfaaaTurn
namespace Go.Proofs.Ytebkmegkdcnfaaa
open Go.RowKit

set_option maxRecDepth 100000 in
set_option maxHeartbeats 4000000 in
theorem linksChain_any (n k : Int) (w : World) :
    Calls Try.prog 10 #[.int .i64 n, .int .i64 k] w fun e w' => e = .returned (.bool true) ∧ Bl w w' := by
  obtain ⟨i0, hi, hz0, hz1, hz2⟩ := info_parts pairInfo
  have hN := ix_lt n (n := 200) (by omega)
  obtain ⟨os, hos, hperm⟩ := circleOf_nat n k
  generalize hNN : ix n 200 = N at *
  have HN := Lib.hid hNN
  have HOS := Lib.hid hos
  have HPM := Lib.hid hperm
  have hol : os.length = N := by rw [hperm.length_eq, List.length_range]
  have HCT : Hid (∀ k : Nat, k < os.length → (natI os).count (k : Int) = 1) := fun k hk => natI_count os (hperm.symm.nodup List.nodup_range) k (hperm.mem_iff.2 (List.mem_range.2 (by omega)))
  clear hNN hos hperm
  go_enter Try.func10, Try.ntmps10
  go_wp2_with fail
  refine (CircleList_impl n k _).mono ?_
  rintro e w1 ⟨v, rfl, o1, b1⟩
  rw [HOS.out] at o1
  have I1 := Lib.hid (OwnI.ints o1)
  have O1 := Lib.hid o1
  have B1 := Lib.hid b1
  obtain ⟨A, c, hv, hcN, hm, hA⟩ := own_open o1
  rw [natI_len] at *
  rw [hol] at hv hcN hA
  subst hv
  unfold maxLen at hm
  have HA := Lib.hid hA
  clear o1 b1 hA
  have HOL := Lib.hid hol
  clear hol
  go_wp2_with fail
  refine (isOrder_true _ _ n _ I1.out (by rw [natI_len, HOL.out, HN.out]) (by rw [natI_len]; exact HCT.out)).mono ?_
  rintro e w2 ⟨rfl, rfl⟩
  go_wp2
  go_loopw [6, 7] (fun lv i wr => ∃ j : Nat, j ≤ N - 1 ∧ i = .int .i64 ((j : Int) + 1) ∧ wr.ownsRow w.heap.size 47 2 lv j (pcells (chainTo os j)) ∧ OwnI wr w.heap.size (.slice A N c) (natI os) ∧ Bl w wr) (fun _ i _ => N - (intOf i).toNat)
  case atStart => exact ⟨0, Nat.zero_le _, rfl, own_base (own_empty _ _ _) B1.out.size, by have h := own_bl O1.out (bl_alloc (bl_refl w1) (.cells #[] 47)); unfold OwnI; rw [natI_len]; exact h, bl_alloc B1.out _⟩
  case round =>
    obtain ⟨j, hj, rfl, hown, hord, hbl⟩ := hrel
    have HO := Lib.hid hown
    have HI := Lib.hid hord
    have HB := Lib.hid hbl
    clear hown hord hbl
    by_cases hlt : j + 1 < N
    · obtain ⟨g, hgA, e0⟩ := own_int_get HI.out (j := j) (by rw [natI_len, HOL.out]; omega)
      subst hgA
      obtain ⟨g', hgA, e1⟩ := own_int_get HI.out (j := j + 1) (by rw [natI_len, HOL.out]; omega)
      simp only [Option.some.injEq, Addr.mk.injEq, and_true] at hgA
      subst hgA
      have HS := Lib.hid (chainTo_succ os j)
      rw [natI_get _ (by rw [HOL.out]; omega), ← getD_eq] at e0 e1
      generalize os.getD j 0 = x at *
      generalize os.getD (j + 1) 0 = y at *
      generalize hC1 : chainTo os (j + 1) = C1 at *
      have HC1 := Lib.hid hC1
      clear hC1
      generalize chainTo os j = C0 at *
      have hlt2 : (j : Int) + 1 < (N : Int) := by omega
      have hw1 : IntKind.i64.wrap (j : Int) = (j : Int) := IntWalk.i64_in _ (by omega)
      have hjN : j < N := by omega
      have hjN2 : j + 1 < N := by omega
      have hw2 : ((j : Int) + 1).toNat = j + 1 := by omega
      have hw3 : (0 : Int) ≤ (j : Int) + 1 := by omega
      go_wp2
      go_region_law (
        refine step_cat _ rfl (.tmp 23) (.tmp 34) _ rfl w.heap.size 47 i0 _ 2 16 Try.underlying37 hi hz0 hz1 hz2 rfl (by decide) u6 j (pcells C0) rfl ?_ (.slice (some ⟨wr.heap.size, 0, none⟩) 1 1) 1 (pcells [((x : Int), (y : Int))]) rfl ?_ (one_pairs _) (by unfold maxLen; omega) (by omega) ?_ ?_
        · with_reducible exact own_bl HO.out (bl_drew (bl_alloc (bl_refl wr) _))
        · exact sl_pair (World.cell?_alloc_new wr _ _ 0) (World.cell?_alloc_new wr _ _ 1)
        · exact Nat.le_trans HB.out.size (by simp)
        intro v3 w3 hown3 hchg3 hloc3)
      all_goals
        have HO3 : Hid (w3.ownsRow w.heap.size 47 2 v3 (j + 1) (pcells C1)) := by
          show w3.ownsRow w.heap.size 47 2 v3 (j + 1) (pcells C1)
          rw [HS.out, pcells_append]; exact hown3
        have HB3 := Lib.hid (bl_own (bl_drew (bl_alloc HB.out _)) (own_bl HO.out (bl_drew (bl_alloc (bl_refl wr) _))) hchg3)
        have HI3 := Lib.hid (own_chg (own_bl HI.out (bl_drew (bl_alloc (bl_refl wr) _))) hchg3 (own_ne HI.out HO.out (by decide)))
        clear hown3 hchg3 hloc3 hw1 hw2 hw3
        go_wp2
        go_roundw
        case rel => exact ⟨j + 1, by omega, by go_num, by rw [HC1.out]; exact HO3.out, HI3.out, HB3.out⟩
        case measure => simp [intOf]; omega
    · obtain rfl : j = N - 1 := by omega
      have hlt2 : ¬ (((N - 1 : Nat) : Int) + 1 < (N : Int)) := by omega
      have HPR : Hid (Prs wr u6 (chainTo os (N - 1))) := by
        show Prs wr u6 (chainTo os (N - 1))
        unfold Prs
        rw [chainTo_len]
        exact Sl.of_own HO.out
      go_wp2_with fail
      refine (Cycles_impl n u6 (chainTo os (N - 1)) _ HPR.out).mono ?_
      rintro e w3 ⟨v3, us, rfl, o3, b3⟩
      rw [HN.out] at o3
      have HB3 := Lib.hid (bl_trans HB.out b3)
      have HI3 := Lib.hid (own_bl HI.out b3)
      have hCC : cyclesOf N (chainTo os (N - 1)) = rowsI (cycs N (linkAll N (id, id) (chainTo os (N - 1))).1) := rfl
      rcases Nat.eq_zero_or_pos N with h0 | h0
      · subst h0
        have hC0 : cyclesOf 0 (chainTo os (0 - 1)) = [] := rfl
        rw [hC0] at o3
        obtain ⟨A3, c3, hv3, hc3, hm3, hx⟩ := own_open o3.own
        subst hv3
        clear hx o3 b3
        go_wp2
        go_ret
        exact ⟨rfl, HB3.out⟩
      · have hm0 : (0 : Nat) ∈ os := HPM.out.mem_iff.2 (List.mem_range.2 h0)
        have hpl : os.idxOf 0 < os.length := List.idxOf_lt_length_of_mem hm0
        have hp0 : os[os.idxOf 0] = 0 := List.getElem_idxOf hpl
        rw [hCC, chain_cycs N os HPM.out h0 hpl hp0] at o3
        have hn0 : ((N : Int) == 0) = false := by rw [beq_eq_false_iff_ne]; omega
        clear hCC hlt2 HPR HO b3
        have o3' : OwnSS w3 wr.heap.size v3 [natI (rot os (os.idxOf 0))] us := o3
        clear o3
        have HRS := Lib.hid (OwnSS.rowss o3')
        obtain ⟨A3, c3, hv3, hc3, hm3, hx⟩ := own_open o3'.own
        clear hx
        subst hv3
        simp only [List.length_cons, List.length_nil, Nat.zero_add] at hc3 HRS ⊢
        unfold maxLen at hm3
        clear o3'
        obtain ⟨b, off, u0, hA3, hc0, hu0⟩ := HRS.out.get (k := 0) (by simp)
        subst hA3
        simp only [List.getElem_cons_zero, Nat.add_zero] at hu0 hc0
        have HU0 := Lib.hid hu0
        obtain ⟨A0, c0, hv0, _, _, hx⟩ := hu0.open
        clear hx
        rw [natI_len, rot_len, HOL.out] at hv0
        subst hv0
        clear hu0
        -- the order, as a table
        have hnd : os.Nodup := HPM.out.symm.nodup List.nodup_range
        have htab : natI os = tab (fun i => os.getD i 0) N := by
          apply List.ext_getElem
          · rw [natI_len, tab_len, HOL.out]
          · intro i h1 h2
            rw [tab_len] at h2
            rw [natI_get _ (by rw [HOL.out]; exact h2), tab_get _ h2, getD_eq (by rw [HOL.out]; exact h2)]
        have HTB := Lib.hid htab
        have T1 : Hid (∀ i, i < N → os.getD i 0 < N) := fun i hi => by
          rw [getD_eq (by rw [HOL.out]; exact hi)]
          exact List.mem_range.1 (HPM.out.mem_iff.1 (List.getElem_mem _))
        have T2 : Hid (∀ i, i < N → os.idxOf i < N) := fun i hi => by
          have := List.idxOf_lt_length_of_mem (HPM.out.mem_iff.2 (List.mem_range.2 hi))
          rw [HOL.out] at this; exact this
        have T3 : Hid (∀ i, i < N → os.idxOf (os.getD i 0) = i) := fun i hi => by
          rw [getD_eq (by rw [HOL.out]; exact hi)]
          exact hnd.idxOf_getElem i _
        have T4 : Hid (∀ i, i < N → os.getD (os.idxOf i) 0 = i) := fun i hi => by
          have h := List.idxOf_lt_length_of_mem (HPM.out.mem_iff.2 (List.mem_range.2 hi))
          rw [getD_eq h]; exact List.getElem_idxOf h
        have hpN : os.idxOf 0 < N := T2.out 0 h0
        have HTU : Hid (turnOf (natI os) ((os.idxOf 0 : Int) + 5000) = natI (rot os (os.idxOf 0))) := by
          show _ = _
          unfold turnOf farOf
          rw [natI_len, HOL.out, natI_rot]
          have h1 : ((os.idxOf 0 : Int) + 5000) % 10001 - 5000 = (os.idxOf 0 : Int) := by
            rw [Int.emod_eq_of_lt (by omega) (by omega)]; omega
          rw [h1, ix_nat hpN]
        have HIT := Lib.hid (OwnI.ints HI3.out)
        clear htab hnd hpl hp0 hm0 HRS
        generalize hP : os.idxOf 0 = p at *
        have HP := Lib.hid hP
        clear hP
        go_wp2
        go_region_law (first
          | (go_simp
             go_at_call 41
             with_reducible refine (inverse_any (.slice A N c) N (fun i => os.getD i 0) (fun i => os.idxOf i) _ ?_ (by omega) T1.out T2.out T3.out T4.out).mono ?_
             · rw [← HTB.out]; exact HIT.out.bl (bl_drew (bl_refl w3))
             rintro e w4 ⟨v4, rfl, o4, b4⟩
             have P4 := (b4.cell (World.block_lt_of_cell? _ _ hc0)).trans hc0
             rw [tab_len] at o4
             obtain ⟨A4, c4, hv4, hn4, hm4, hA4⟩ := own_open o4
             obtain ⟨g4, hg4, _, _⟩ := hA4 h0
             clear hA4
             subst hg4 hv4
             have R4 : w4.cell? ⟨g4, 0, none⟩ = some (.int .i64 (p : Int)) := (own_cell o4 (by omega)).trans (by rw [List.getD_eq_getElem?_getD, List.getElem?_map, tab_get? _ h0, HP.out]; rfl)
             have H4 := Lib.hid (bl_trans (bl_drew (bl_refl w3)) b4)
             clear o4 b4)
          | (go_simp
             go_at_call 40
             with_reducible refine (Near_any (p : Int) _ (by omega)).mono ?_
             rintro e w5 ⟨rfl, rfl⟩)
          | (go_simp
             go_at_call 39
             with_reducible refine (TurnList_spec (.slice A N c) (natI os) ((p : Int) + 5000) _ (Ints.bl HIT.out H4.out) (by rw [natI_len, HOL.out]; omega)).mono ?_
             rintro e w5 ⟨v5, rfl, o5, b5⟩
             rw [HTU.out] at o5
             have P5 := (b5.cell (World.block_lt_of_cell? _ _ P4)).trans P4
             have H5 := Lib.hid (bl_trans H4.out b5)
             have O5 := Lib.hid (OwnI.ints o5)
             clear o5 b5)
          | (go_simp
             go_at_call 16
             with_reducible refine (same_true (.slice A0 N c0) v5 (natI (rot os p)) _ (Ints.bl HU0.out H5.out) O5.out).mono ?_
             rintro e w6 ⟨rfl, b6⟩
             have B6 := Lib.hid (bl_trans (bl_trans HB3.out H5.out) b6)
             clear b6))
        all_goals
          go_wp2
          go_ret
          exact ⟨rfl, B6.out⟩

end Go.Proofs.Ytebkmegkdcnfaaa
