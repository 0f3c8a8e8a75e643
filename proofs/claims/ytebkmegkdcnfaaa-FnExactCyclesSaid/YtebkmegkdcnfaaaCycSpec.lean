/- The walk of Cycles, of the reference. -/
import Derived.Test.YtebkmegkdcnfaaaCycles
namespace Go.Proofs.Ytebkmegkdcnfaaa
open Go.RowKit

/-- Where the walk around a cycle goes on. -/
theorem Cyc.walk {n : Nat} {f : Nat → Nat} {k : Nat} {L : List Nat} (h : Cyc n f k L) {j : Nat} (hj : j < (k :: L).length) :
    f ((k :: L).getD j k) = (k :: L).getD (j + 1) k ∧ (k :: L).take (j + 1) = (k :: L).take j ++ [(k :: L).getD j k] ∧ (k :: L).getD j k ∉ (k :: L).take j ∧ (k :: L).getD j k ∈ k :: L := by
  have e : (k :: L).getD j k = (k :: L)[j] := by rw [List.getD_eq_getElem?_getD, List.getElem?_eq_getElem hj]; rfl
  refine ⟨?_, ?_, ?_, ?_⟩
  · rw [e]
    rcases (by omega : j + 1 < (k :: L).length ∨ j = (k :: L).length - 1) with h1 | h1
    · rw [h.path.get_succ j h1, List.getD_eq_getElem?_getD, List.getElem?_eq_getElem h1]; rfl
    · subst h1
      rw [h.path.get_last (by simp), List.getD_eq_getElem?_getD, List.getElem?_eq_none (by omega)]; rfl
  · rw [e, List.take_succ_eq_append_getElem hj]
  · rw [e]
    intro hm
    obtain ⟨i, hi, e2⟩ := List.getElem_of_mem hm
    rw [List.getElem_take] at e2
    have hij := (List.getElem_inj h.nodup).1 e2
    rw [List.length_take] at hi
    omega
  · rw [e]; exact List.getElem_mem _

theorem sumLen_rowsI (cs : List (List Nat)) : sumLen (rowsI cs) = cs.flatten.length := by
  induction cs with
  | nil => rfl
  | cons c cs ih =>
    have h1 : sumLen (rowsI (c :: cs)) = (natI c).length + sumLen (rowsI cs) := by simp [sumLen, rowsI]
    rw [h1, ih, natI_len, List.flatten_cons, List.length_append]
theorem cyclesOf_sum (n : Nat) (ps : List (Int × Int)) : sumLen (cyclesOf n ps) ≤ n := by
  unfold cyclesOf
  rw [sumLen_rowsI]
  have h := cycsTo_inv (linkAll_perm n ps) n (Nat.le_refl _)
  exact nodup_le n _ h.nodup h.lt

def slen : Value → Nat
  | .slice _ n _ => n
  | _ => 0

set_option maxRecDepth 100000 in
set_option maxHeartbeats 2000000 in
theorem Cycles_spec (a : Int) (u : Value) (ps : List (Int × Int)) (w : World) (hu : Prs w u ps) :
    Calls Try.prog 20 #[.int .i64 a, u] w (NewSS w (cyclesOf (ix a 200) ps)) := by
  obtain ⟨i0, hi, hz0, hz1, hz2⟩ := info_parts rowInfo
  obtain ⟨i1, hi1, hy0, hy1, hy2⟩ := info_parts boolInfo
  obtain ⟨i2, hi2, hx0, hx1, hx2⟩ := info_parts intInfo
  have HU := Lib.hid hu
  clear hu
  have hN := ix_lt a (n := 200) (by omega)
  generalize hNN : ix a 200 = N at *
  have HN := Lib.hid hNN
  clear hNN
  go_enter Try.func20, Try.ntmps20
  go_wp2_with fail
  refine (Links_spec a u ps _ HU.out).mono ?_
  rintro e w1 ⟨v, rfl, hown, hbl⟩
  rw [HN.out] at hown
  have hT : linksOf N ps = tab (linkAll N (id, id) ps).1 N := rfl
  rw [hT] at hown
  clear hT
  have HC : Hid (cyclesOf N ps = rowsI (cycs N (linkAll N (id, id) ps).1)) := rfl
  have HP := Lib.hid (linkAll_perm N ps)
  generalize linkAll N (id, id) ps = s at *
  have HO := Lib.hid hown
  have HB := Lib.hid hbl
  clear hown hbl
  obtain ⟨A, c, hv, hcN, hm, hAx⟩ := own_open HO.out
  clear hAx
  rw [tab_len] at hv hcN
  unfold maxLen at hm
  subst hv
  have hb0 := HB.out.size
  go_wp2_with (at_make; refine wpList_make_full _ rfl _ _ 78 rfl w.heap.size 4 i1 _ 1 Try.underlying78 hi1 hy0 hy1 _ _ _ _ N rfl rfl rfl rfl (by rw [hy2]; omega) (by unfold maxLen; omega) hb0 ?_; intro w3 hown hg)
  have hz : (madeCells (Value.bool false).cells (N * 1)).toList = List.replicate N (Value.bool false) := by
    apply List.ext_getElem
    · simp [size_madeCells]
    · intro i h1 h2
      simp [madeCells, Value.cells, Nat.mod_one]
  rw [hz, ← seenL_none] at hown
  have hb3 : Bl w1 w3 := (Below.refl _ _).grown hg (Nat.le_refl _) (by simp)
  generalize w1.heap.size = sb at hown ⊢
  have HS3 := Lib.hid (hown.alloc (.cells #[] 23))
  have HB3 := Lib.hid (bl_alloc (bl_trans HB.out hb3) (.cells #[] 23))
  have HE3 := Lib.hid (own_bl (own_bl HO.out hb3) (bl_alloc (bl_refl w3) (.cells #[] 23)))
  have HX3 : Hid (OwnSS (w3.alloc (.cells #[] 23)) w.heap.size (.slice (some ⟨w3.heap.size, 0, none⟩) 0 0) (rowsI (cycsTo N s.1 0)) []) := ⟨own_base (own_empty _ _ _) (bl_trans HB.out hb3).size, fun k hk => absurd hk (by simp [rowsI, cycsTo]), fun i j a b hij hi hj => by simp at hi⟩
  clear hown hg hz hb3 HO HB
  go_wp2
  go_loopw [7, 8, 9, 10, 20] (fun v _ _ _ i wr => ∃ k : Nat, k ≤ N ∧ i = .int .i64 k ∧ (∃ us, OwnSS wr w.heap.size v (rowsI (cycsTo N s.1 k)) us) ∧ wr.ownsRow w.heap.size 4 1 (.slice (some ⟨sb, 0, none⟩) N N) N (seenL N (cycsTo N s.1 k).flatten) ∧ OwnI wr w.heap.size (.slice A N c) (tab s.1 N) ∧ Bl w wr) (fun _ _ _ _ i _ => N - (intOf i).toNat)
  case atStart => exact ⟨0, Nat.zero_le _, rfl, ⟨[], HX3.out⟩, HS3.out, HE3.out, HB3.out⟩
  case round =>
    clear HS3 HB3 HE3 HX3
    obtain ⟨k, hk, rfl, ⟨us, hss⟩, hseen, helem, hbl⟩ := hrel
    obtain ⟨wo, rfl⟩ : ∃ wo : World, wo = wr := ⟨_, rfl⟩
    have HSS := Lib.hid hss
    have HSE := Lib.hid hseen
    have HEK := Lib.hid helem
    have HBK := Lib.hid hbl
    clear hss hseen helem hbl
    by_cases hlt : k < N
    · have hc1 := own_cell HSE.out (k := k) (by omega)
      rw [seenL_get _ hlt] at hc1
      have HST := Lib.hid (cycsTo_succ N s.1 k)
      unfold cycStep at HST
      have HIN := Lib.hid (cycsTo_inv HP.out k hk)
      generalize cycsTo N s.1 k = out at *
      by_cases hmem : k ∈ out.flatten
      · rw [decide_eq_true hmem] at hc1
        rw [if_pos hmem] at HST
        clear hmem
        go_wp2
        go_roundw
        case rel => exact ⟨k + 1, by omega, by go_num, ⟨us, by rw [HST.out]; exact HSS.out⟩, by rw [HST.out]; exact HSE.out, HEK.out, HBK.out⟩
        case measure => simp [intOf]; omega
      · rw [decide_eq_false hmem] at hc1
        rw [if_neg hmem] at HST
        obtain ⟨L, hL⟩ := HP.out.cyc hlt
        rw [hL.eq] at HST
        have HAP := Lib.hid (HIN.out.apart hL hmem)
        have HL := Lib.hid hL
        have hLn := nodup_le N _ hL.nodup hL.lt
        have hbo := HBK.out.size
        clear hmem hL
        obtain ⟨W, hW⟩ : ∃ W, W = wo.alloc (.cells #[] 3) := ⟨_, rfl⟩
        have HSW := Lib.hid (own_bl HSE.out (bl_alloc (bl_refl wo) (.cells #[] 3)))
        have HEW := Lib.hid (own_bl HEK.out (bl_alloc (bl_refl wo) (.cells #[] 3)))
        have HSSW := Lib.hid (HSS.out.bl (bl_alloc (bl_refl wo) (.cells #[] 3)))
        have HRW : Hid (OwnI (wo.alloc (.cells #[] 3)) wo.heap.size (.slice (some ⟨wo.heap.size, 0, none⟩) 0 0) []) := own_empty wo _ _
        have HBW := Lib.hid (bl_alloc HBK.out (.cells #[] 3))
        clear W hW
        go_wp2
        go_loopw [9, 10] (fun r i ws => ∃ j : Nat, j ≤ (k :: L).length ∧ i = .int .i64 ((k :: L).getD j k) ∧ ws.ownsRow w.heap.size 4 1 (.slice (some ⟨sb, 0, none⟩) N N) N (seenL N (out.flatten ++ (k :: L).take j)) ∧ OwnI ws wo.heap.size r (natI ((k :: L).take j)) ∧ OwnI ws w.heap.size (.slice A N c) (tab s.1 N) ∧ OwnSS ws w.heap.size u7 (rowsI out) us ∧ Bl w ws ∧ wo.heap.size ≤ ws.heap.size) (fun r _ _ => N - slen r)
        case atStart => exact ⟨0, Nat.zero_le _, rfl, by rw [List.take_zero, List.append_nil]; exact HSW.out, HRW.out, HEW.out, HSSW.out, HBW.out, by simp⟩
        case round =>
          clear HSW HRW HEW HSSW HBW hc1
          obtain ⟨j, hj, rfl, hse, hri, hel, hss, hbl, hsz⟩ := hrel
          have HSJ := Lib.hid hse
          have HRJ := Lib.hid hri
          have HEJ := Lib.hid hel
          have HXJ := Lib.hid hss
          have HBJ := Lib.hid hbl
          have HZJ := Lib.hid hsz
          have hlen : (natI ((k :: L).take j)).length = j := by rw [natI_len, List.length_take]; omega
          obtain ⟨A9, c9, hv9, hc9, hm9, hx9⟩ := own_open hri
          rw [hlen] at hv9 hc9
          clear hx9 hse hri hel hss hbl hsz
          subst hv9
          unfold maxLen at hm9
          by_cases hjl : j < (k :: L).length
          · obtain ⟨f1, f2, f3, f4⟩ := HL.out.walk hjl
            have hzN := HL.out.lt _ f4
            have hc1 := own_cell HSJ.out (k := (k :: L).getD j k) (by omega)
            rw [seenL_get _ hzN, decide_eq_false (by rw [List.mem_append]; rintro (h | h); exact HAP.out _ f4 h; exact f3 h)] at hc1
            have hf1 := own_frozen HSJ.out ((k :: L).getD j k)
            have hs1 := own_set (k := (k :: L).getD j k) HSJ.out (.bool true)
            rw [seenL_set, List.append_assoc, ← f2] at hs1
            have HF1 := Lib.hid f1
            have HF2 := Lib.hid f2
            generalize (k :: L).getD j k = z at *
            have hgs := own_lt HSJ.out sb rfl
            have hch := (Chg.refl (fun b => b = sb) wr).setCell (p := ⟨sb, z, none⟩) rfl (.bool true)
            have HS1 := Lib.hid hs1
            have HR1 := Lib.hid (own_chg HRJ.out hch (fun g h1 h2 => own_ne HRJ.out HSJ.out (by decide) g h1 (h2 ▸ rfl)))
            have HE1 := Lib.hid (own_chg HEJ.out hch (fun g h1 h2 => own_ne HEJ.out HSJ.out (by decide) g h1 (h2 ▸ rfl)))
            have HX1 := Lib.hid (HXJ.out.chg hch (fun g h1 h2 => HXJ.out.ne_own HSJ.out (by decide) (by decide) g h1 (h2 ▸ rfl)))
            have HB1 := Lib.hid (bl_set (p := ⟨sb, z, none⟩) HBJ.out hgs.1 (.bool true))
            have hz1' : wo.heap.size ≤ (wr.setCell ⟨sb, z, none⟩ (.bool true)).heap.size := Nat.le_trans HZJ.out hch.size
            have HZ1 := Lib.hid hz1'
            clear hs1 hch f1 f2 f3 f4 hgs hz1'
            obtain ⟨g, hgA, _⟩ := own_int_get HEJ.out (j := z) (by rw [tab_len]; exact hzN)
            subst hgA
            clear HSJ HRJ HEJ HXJ HBJ HZJ
            have HS0 := Lib.hid (List.length_take (i := j) (l := k :: L))
            go_wp2_with (
              at_builtin
              go_must (refine wpList_push (wr.setCell ⟨sb, z, none⟩ (.bool true)) rfl (.tmp 41) (.tmp 43) _ rfl wo.heap.size 3 i2 _ 8 Try.underlying23 hi2 hx0 hx1 hx2 rfl (.slice A9 j c9) _ _ rfl HR1.out (.int .i64 z) rfl rfl (by simp) (by rw [hlen]; omega) (by rw [hlen]; omega) HZ1.out ?_)
              intro v6 w6 hown6 hchg6 hloc6
              have R6 := OwnI.snoc hown6
              have hnz : natI ((k :: L).take j) ++ [(z : Int)] = natI ((k :: L).take (j + 1)) := by rw [HF2.out]; simp [natI]
              rw [hnz] at R6
              have HR6 := Lib.hid R6
              have HS6 := Lib.hid (own_chg HS1.out hchg6 (own_ne HS1.out HR1.out (by decide)))
              have HE6 := Lib.hid (own_chg HE1.out hchg6 (fun g h1 h2 => by have l1 := (own_lt HEK.out g h1).2; have l2 := (own_lt HR1.out g h2).1; omega))
              have HX6 := Lib.hid (HX1.out.chg hchg6 (fun g h1 h2 => by have l1 := (HSS.out.lt g h1).2; have l2 := (own_lt HR1.out g h2).1; omega))
              have HB6 := Lib.hid (bl_chg HB1.out hchg6 (fun i hi => Nat.le_trans hbo (own_lt HR1.out i hi).1))
              have HZ6 := Lib.hid (Nat.le_trans HZ1.out hchg6.size)
              clear hown6 hchg6 hloc6 R6 hnz hc1
              have e5 : w6.cell? ⟨g, z, none⟩ = some (.int .i64 ((k :: L).getD (j + 1) k)) := by
                obtain ⟨g', hgA, e5⟩ := own_int_get HE6.out (j := z) (by rw [tab_len]; exact hzN)
                simp at hgA
                subst hgA
                rw [tab_get _ hzN, HF1.out] at e5
                exact e5)
            go_roundw
            case rel => exact ⟨j + 1, hjl, rfl, HS6.out, HR6.out, HE6.out, HX6.out, HB6.out, HZ6.out⟩
            case measure =>
              have h1 := congrArg List.length (rfl : natI ((k :: L).take (j + 1)) = _)
              obtain ⟨A7, c7, hv7, _⟩ := own_open HR6.out
              have hl7 : (natI ((k :: L).take (j + 1))).length = j + 1 := by rw [natI_len, List.length_take]; omega
              rw [hl7] at hv7
              subst hv7
              simp only [slen]
              omega
          · obtain rfl : j = (k :: L).length := by omega
            have hk0 : (k :: L).getD (k :: L).length k = k := by rw [List.getD_eq_getElem?_getD, List.getElem?_eq_none (by omega)]; rfl
            rw [hk0]
            have hc1 := own_cell HSJ.out (k := k) (by omega)
            rw [List.take_length] at HSJ HRJ hlen
            rw [seenL_get _ hlt, decide_eq_true (by simp)] at hc1
            generalize k :: L = Z at *
            have hol := HIN.out.len_le
            rw [← rowsI_len] at hol
            have HSN := Lib.hid (rowsI_snoc out Z)
            have HSP : Hid (∀ g, SSb u7 us g → ¬ (Value.slice A9 Z.length c9).ownBlock = some g) := fun g h1 h2 => by
              have l1 := (HSS.out.lt g h1).2
              have l2 := (own_lt HRJ.out g h2).1
              omega
            have HFL : Hid ((out ++ [Z]).flatten = out.flatten ++ Z) := by show _ = _; simp
            have HRB := Lib.hid (own_base HRJ.out hbo)
            go_wp2_with (at_builtin; go_must (refine wpList_push wr rfl (.tmp 45) (.tmp 47) _ rfl w.heap.size 23 i0 _ 24 Try.underlying35 hi hz0 hz1 hz2 rfl u7 _ us rfl HXJ.out.own (.slice A9 Z.length c9) rfl rfl rfl (by omega) (by omega) HBJ.out.size ?_); intro v6 w6 hown6 hchg6 hloc6)
            have X6 := Lib.hid (HXJ.out.snoc2 HRB.out HSP.out hown6 hchg6)
            have S6 := Lib.hid (own_chg HSJ.out hchg6 (own_ne HSJ.out HXJ.out.own (by decide)))
            have E6 := Lib.hid (own_chg HEJ.out hchg6 (own_ne HEJ.out HXJ.out.own (by decide)))
            have B6 := Lib.hid (bl_own HBJ.out HXJ.out.own hchg6)
            clear hown6 hchg6 hloc6
            go_roundw
            case rel => exact ⟨k + 1, by omega, by go_num, ⟨_, by rw [HST.out, HSN.out]; exact X6.out⟩, by rw [HST.out, HFL.out]; exact S6.out, E6.out, B6.out⟩
            case measure => simp [intOf]; omega
    · obtain rfl : k = N := by omega
      go_wp2
      go_ret
      exact ⟨_, us, rfl, by rw [HC.out]; exact HSS.out, HBK.out⟩

end Go.Proofs.Ytebkmegkdcnfaaa
