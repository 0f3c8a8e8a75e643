/- FnCyclesNext returns true: the walk of the law. -/
import Derived.Test.YtebkmegkdcnfaaaCycLink
import Derived.Test.YtebkmegkdcnfaaaLinksProduct
namespace Go.Proofs.Ytebkmegkdcnfaaa
open Go.RowKit

theorem one_ints3 (xs : List Int) : ∀ y ∈ xs.map (Value.int .i64), y.oneCell' = true := by
  intro y hy
  obtain ⟨x, _, rfl⟩ := List.mem_map.1 hy
  rfl
theorem Rowss.get {w : World} {A : Option Addr} {n c : Nat} {rows : List (List Int)} (h : Rowss w (.slice A n c) rows) {k : Nat} (hk : k < rows.length) : ∃ b off u, A = some ⟨b, off, none⟩ ∧ w.cell? ⟨b, off + k, none⟩ = some u ∧ Ints w u rows[k] := by
  obtain ⟨A', c', e, _, _, h1⟩ := h.open
  simp only [Value.slice.injEq] at e
  obtain ⟨rfl, rfl, rfl⟩ := e
  exact h1 k hk
theorem Ints.get {w : World} {A : Option Addr} {n c : Nat} {xs : List Int} (h : Ints w (.slice A n c) xs) {k : Nat} (hk : k < xs.length) : ∃ b off, A = some ⟨b, off, none⟩ ∧ w.cell? ⟨b, off + k, none⟩ = some (.int .i64 xs[k]) := by
  obtain ⟨A', c', e, _, _, h1⟩ := h.open
  simp only [Value.slice.injEq] at e
  obtain ⟨rfl, rfl, rfl⟩ := e
  exact h1 k hk
theorem Cyc.next_mod {n : Nat} {f : Nat → Nat} {k : Nat} {L : List Nat} (h : Cyc n f k L) {i : Nat} (hi : i < (k :: L).length) : f (k :: L)[i] = (k :: L)[(i + 1) % (k :: L).length]'(Nat.mod_lt _ (by simp)) := by
  rcases (by omega : i + 1 < (k :: L).length ∨ i = (k :: L).length - 1) with h1 | h1
  · rw [h.path.get_succ i h1]
    congr 1
    rw [Nat.mod_eq_of_lt h1]
  · subst h1
    rw [h.path.get_last (by simp)]
    have h2 : ((k :: L).length - 1 + 1) % (k :: L).length = 0 := by
      have : (k :: L).length - 1 + 1 = (k :: L).length := by simp
      rw [this, Nat.mod_self]
    have h3 : ∀ (m : Nat) (hm : m < (k :: L).length), m = 0 → k = (k :: L)[m] := by
      intro m hm e; subst e; rfl
    exact h3 _ _ h2
/-- A ring, as the law looks at it. -/
structure RingOk (N : Nat) (f : Nat → Nat) (zs : List Nat) : Prop where
  pos : 0 < zs.length
  le : zs.length ≤ N
  lt : ∀ i (h : i < zs.length), zs[i] < N
  nx : ∀ i (h : i < zs.length), f zs[i] = zs[(i + 1) % zs.length]'(Nat.mod_lt _ pos)
  first : ∀ i (h : i < zs.length), zs[0] ≤ zs[i]
theorem CInv.ok {n : Nat} {f : Nat → Nat} {k : Nat} {out : List (List Nat)} (h : CInv n f k out) {c : List Nat} (hc : c ∈ out) : RingOk n f c := by
  obtain ⟨j, A, rfl, _, h1, h2⟩ := h.cyc c hc
  exact ⟨by simp, nodup_le n _ h1.nodup h1.lt, fun i hi => h1.lt _ (List.getElem_mem hi), fun i hi => h1.next_mod hi, fun i hi => h2 _ (List.getElem_mem hi)⟩
theorem natI_flatten (out : List (List Nat)) : (rowsI out).flatten = natI out.flatten := by
  unfold rowsI natI
  rw [List.map_flatten]
theorem natI_count (l : List Nat) (hn : l.Nodup) (k : Nat) (hk : k ∈ l) : (natI l).count (k : Int) = 1 := by
  have h1 : (natI l).count (k : Int) = l.count k := by
    unfold natI List.count
    rw [List.countP_map]
    apply List.countP_congr
    intro x _
    simp only [Function.comp, beq_iff_eq]
    omega
  rw [h1, hn.count, if_pos hk]
theorem rowsI_take_sum (out : List (List Nat)) (k : Nat) : ((rowsI out).take k).flatten.length ≤ out.flatten.length := by
  have h1 : (rowsI out).take k = rowsI (out.take k) := by unfold rowsI; rw [List.map_take]
  rw [h1, natI_flatten, natI_len]
  have h2 : out.flatten = (out.take k).flatten ++ (out.drop k).flatten := by rw [← List.flatten_append, List.take_append_drop]
  rw [h2, List.length_append]
  omega

set_option maxRecDepth 100000 in
set_option maxHeartbeats 4000000 in
theorem cyclesNext_any (a : Int) (u : Value) (ps : List (Int × Int)) (w : World) (hu : Prs w u ps) :
    Calls Try.prog 5 #[.int .i64 a, u] w fun e w' => e = .returned (.bool true) ∧ Bl w w' := by
  obtain ⟨i0, hi, hz0, hz1, hz2⟩ := info_parts intInfo
  have HU := Lib.hid hu
  clear hu
  have hN := ix_lt a (n := 200) (by omega)
  generalize hNN : ix a 200 = N at *
  have HN := Lib.hid hNN
  clear hNN
  go_enter Try.func5, Try.ntmps5
  go_wp2_with fail
  refine (Links_impl a u ps _ HU.out).mono ?_
  rintro e w1 ⟨v, rfl, hown, hbl⟩
  rw [HN.out] at hown
  have HCN := Lib.hid (linksOf_count N ps)
  have hT : linksOf N ps = tab (linkAll N (id, id) ps).1 N := rfl
  rw [hT] at hown HCN
  clear hT
  have HO := Lib.hid hown
  have HB := Lib.hid hbl
  obtain ⟨A, c, hv, hcN, hm, hAx⟩ := own_open hown
  clear hAx hown hbl
  rw [tab_len] at hv hcN
  unfold maxLen at hm
  subst hv
  go_wp2_with fail
  have hb1 := bl_alloc (bl_refl w1) (.cells #[] 3)
  have HA1 := Lib.hid (own_base (own_empty w1 3 1) HB.out.size)
  have HO1 := Lib.hid (own_bl HO.out hb1)
  have HB1 := Lib.hid (bl_trans HB.out hb1)
  have hlt0 : w1.heap.size < (w1.alloc (.cells #[] 3)).heap.size := by simp
  obtain ⟨ab, hab⟩ : ∃ ab, w1.heap.size = ab := ⟨_, rfl⟩
  have HAO : Hid (∀ g, (Value.slice A N c).ownBlock = some g → g < ab) := fun g hg => by have := (own_lt HO.out g hg).2; omega
  rw [hab] at HA1 hlt0 ⊢
  generalize w1.alloc (.cells #[] 3) = wa at *
  clear hb1 HB HO hab
  refine (Cycles_impl a u ps _ (HU.out.bl HB1.out)).mono ?_
  rintro e w2 ⟨v2, us, rfl, o2, b2⟩
  rw [HN.out] at o2
  have hCC : cyclesOf N ps = rowsI (cycs N (linkAll N (id, id) ps).1) := rfl
  rw [hCC] at o2
  clear hCC
  have HP := Lib.hid (linkAll_perm N ps)
  generalize linkAll N (id, id) ps = s at *
  have HRG := Lib.hid (cycsTo_inv HP.out N (Nat.le_refl _))
  have hcl := HRG.out.len_le
  obtain ⟨rows, hrows⟩ : ∃ rows, rows = rowsI (cycs N s.1) := ⟨_, rfl⟩
  have HROW := Lib.hid hrows
  have hrl : rows.length = (cycs N s.1).length := by rw [hrows, rowsI_len]
  have hrl2 : rows.length ≤ N := by rw [hrl]; exact hcl
  rw [← hrows] at o2
  obtain ⟨A2, c2, hv2, hc2, hm2, HV2⟩ := (OwnSS.rowss o2).open
  have HV2 := Lib.hid HV2
  subst hv2
  unfold maxLen at hm2
  have HO2 := Lib.hid (own_bl HO1.out b2)
  have HA2 := Lib.hid (own_bl HA1.out b2)
  have HB2 := Lib.hid (bl_trans HB1.out b2)
  have HSL : Hid (∀ g, (Value.slice (some ⟨ab, 0, none⟩) 0 0).ownBlock = some g → g < w2.heap.size) := fun g hg => (own_lt HA2.out g hg).2
  have HSS := Lib.hid o2
  have hw2 := b2.size
  clear HO1 HA1 HB1 o2 b2 hcl hrl
  clear hrows
  go_wp2
  go_loopw [6, 8, 9, 10, 19] (fun o _ _ _ i wr => ∃ k : Nat, k ≤ rows.length ∧ i = .int .i64 k ∧ OwnI wr w.heap.size o (rows.take k).flatten ∧ (∀ g, o.ownBlock = some g → g = ab ∨ w2.heap.size ≤ g) ∧ Chg (fun g => g = ab) w2 wr ∧ Bl w wr) (fun _ _ _ _ i _ => rows.length - (intOf i).toNat)
  case atStart => exact ⟨0, Nat.zero_le _, rfl, HA2.out, fun g hg => .inl (by simp [Value.ownBlock] at hg; exact hg.symm), Chg.refl _ _, HB2.out⟩
  case round =>
    obtain ⟨k, hk, rfl, hown, hloc, hchg, hbl⟩ := hrel
    obtain ⟨wo, rfl⟩ : ∃ wo : World, wo = wr := ⟨_, rfl⟩
    have HOK := Lib.hid hown
    have HLO := Lib.hid hloc
    have HCH := Lib.hid hchg
    have HBK := Lib.hid hbl
    clear hown hloc hchg hbl
    have HSK := Lib.hid (HSS.out.chg HCH.out (fun g hg e => by have := (HSS.out.lt g hg).1; omega))
    have HNK := Lib.hid (own_chg HO2.out HCH.out (fun g hg e => by have := HAO.out g hg; omega))
    have hfl := rowsI_take_sum (cycs N s.1) k
    rw [← HROW.out] at hfl
    have hfN := Nat.le_trans hfl (nodup_le N _ HRG.out.nodup HRG.out.lt)
    by_cases hlt : k < rows.length
    · obtain ⟨b, off, u8, hA, hc1, hu8⟩ := (OwnSS.rowss HSK.out).get hlt
      subst hA
      obtain ⟨zs, hzs, hzm⟩ : ∃ zs, rows[k] = natI zs ∧ zs ∈ cycs N s.1 := by
        have h1 : k < (cycs N s.1).length := by
          have := hlt; rw [HROW.out, rowsI_len] at this; exact this
        refine ⟨(cycs N s.1)[k], ?_, List.getElem_mem _⟩
        simp only [HROW.out, rowsI, List.getElem_map]
      have HZ := Lib.hid (HRG.out.ok hzm)
      have hF : (rows.take (k + 1)).flatten = (rows.take k).flatten ++ natI zs := by
        rw [List.take_succ_eq_append_getElem hlt, List.flatten_append, hzs]; simp
      have HF := Lib.hid hF
      rw [hzs] at hu8
      have HU8 := Lib.hid hu8
      obtain ⟨A8, c8, hv8, hc8, hm8, _⟩ := hu8.open
      rw [natI_len] at hv8 hc8
      unfold maxLen at hm8
      subst hv8
      have hpos := HZ.out.pos
      have hle := HZ.out.le
      clear hu8 hzs hzm hF hfl
      generalize (rows.take k).flatten = ys at *
      go_wp2
      go_loopw [9, 10, 25] (fun _ _ i ws => ∃ j : Nat, j ≤ zs.length ∧ i = .int .i64 j ∧ ∃ n, ws = wo.drewN n) (fun _ _ i _ => zs.length - (intOf i).toNat)
      case atStart => exact ⟨0, Nat.zero_le _, rfl, 0, rfl⟩
      case round =>
        obtain ⟨j, hj, rfl, nd, rfl⟩ := hrel
        by_cases hjl : j < zs.length
        · obtain ⟨b8, off8, hA8, e8⟩ := HU8.out.get (k := j) (by rw [natI_len]; exact hjl)
          subst hA8
          have ht : (j + 1) % zs.length < zs.length := Nat.mod_lt _ hpos
          obtain ⟨b9, off9, hA9, e9⟩ := HU8.out.get (k := (j + 1) % zs.length) (by rw [natI_len]; exact ht)
          simp only [Option.some.injEq, Addr.mk.injEq, and_true] at hA9
          obtain ⟨rfl, rfl⟩ := hA9
          obtain ⟨b9, off9, hA9, e0⟩ := HU8.out.get (k := 0) (by rw [natI_len]; exact hpos)
          simp only [Option.some.injEq, Addr.mk.injEq, and_true] at hA9
          obtain ⟨rfl, rfl⟩ := hA9
          rw [natI_get _ hjl] at e8
          rw [natI_get _ ht] at e9
          rw [natI_get _ hpos] at e0
          simp only [Nat.add_zero] at e0
          have f1 := HZ.out.lt j hjl
          have f2 := HZ.out.nx j hjl
          have f3 := HZ.out.first j hjl
          have hmm : ((j : Int) + 1) % (zs.length : Int) = (((j + 1) % zs.length : Nat) : Int) := by rw [Int.natCast_emod, Int.natCast_add]; rfl
          have hmm2 : ((j : Int) + 1).tmod (zs.length : Int) = (((j + 1) % zs.length : Nat) : Int) := by rw [Int.tmod_eq_emod_of_nonneg (by omega)]; exact hmm
          have hw1 : IntKind.i64.wrap ((j : Int) + 1) = (j : Int) + 1 := IntWalk.i64_in _ (by omega)
          have hw2 : IntKind.i64.wrap (((j + 1) % zs.length : Nat) : Int) = (((j + 1) % zs.length : Nat) : Int) := IntWalk.i64_in _ (by omega)
          have hln : ¬ (zs.length : Int) = 0 := by omega
          have hl0 : ((zs.length : Int) == 0) = false := by rw [beq_eq_false_iff_ne]; omega
          rw [← f2] at e9
          obtain ⟨gN, hAN, en⟩ := own_int_get HNK.out (j := zs[j]) (by rw [tab_len]; exact f1)
          subst hAN
          rw [tab_get _ f1] at en
          clear f2
          generalize s.1 zs[j] = y at *
          generalize zs[j] = z at *
          generalize zs[0] = z0 at *
          generalize (j + 1) % zs.length = t at *
          have hd1 : decide ((z : Int) < 0) = false := decide_eq_false (by omega)
          have hd2 : decide (N ≤ z) = false := decide_eq_false (by omega)
          have hd3 : decide (z < z0) = false := decide_eq_false (by omega)
          go_wp2
          go_quiet (fail)
          clear hw1 hw2 hmm hmm2
          go_wp2
          go_roundw
          case rel => exact ⟨j + 1, by omega, by go_num, _, rfl⟩
          case measure => simp [intOf]; omega
        · obtain rfl : j = zs.length := by omega
          have HOd := Lib.hid (own_bl HOK.out (bl_drewN (bl_refl wo) nd))
          have HUd := Lib.hid (HU8.out.bl (bl_drewN (bl_refl wo) nd))
          have HCd := Lib.hid (HCH.out.trans (chg_of_bl (bl_drewN (bl_refl wo) nd) _))
          have HBd := Lib.hid (bl_drewN HBK.out nd)
          have hylen := hfN
          have hsum : ys.length + zs.length ≤ N + N := by omega
          have HUl := HUd
          have hnl : (natI zs).length = zs.length := natI_len zs
          have HUs : Hid (Sl (wo.drewN nd) 1 (.slice A8 zs.length c8) zs.length ((natI zs).map (Value.int .i64))) := by
            have := HUd.out; unfold Ints at this; rw [hnl] at this; exact this
          clear HU8 HUd HUl HOK HBK HSK HNK HCH hnl
          generalize wo.drewN nd = wd at *
          go_wp2_with (at_builtin; go_must (refine wpList_cat wd rfl (.tmp 61) (.tmp 62) _ rfl w.heap.size 3 i0 _ 1 8 Try.underlying23 hi hz0 hz1 hz2 rfl (by decide) u6 ys.length (ys.map (Value.int .i64)) rfl HOd.out _ zs.length ((natI zs).map (Value.int .i64)) rfl HUs.out (one_ints3 _) (by unfold maxLen; omega) (by omega) HBd.out.size ?_); intro v1 w4 hown4 hchg4 hloc4)
          have HO4 : Hid (OwnI w4 w.heap.size v1 (ys ++ natI zs)) := by
            show OwnI w4 w.heap.size v1 (ys ++ natI zs)
            unfold OwnI
            rw [List.length_append, List.map_append, natI_len]
            exact hown4
          have HL4 : Hid (∀ g, v1.ownBlock = some g → g = ab ∨ w2.heap.size ≤ g) := fun g hg => by
            rcases hloc4 g hg with h | h
            · exact HLO.out g h
            · exact .inr (Nat.le_trans HCd.out.size h)
          have HC4 := Lib.hid (HCd.out.then hchg4 (fun i hi hl => by
            rcases HLO.out i hi with h | h
            · exact h
            · omega))
          have HB4 := Lib.hid (bl_own HBd.out HOd.out hchg4)
          clear hown4 hchg4 hloc4
          go_roundw
          case rel => exact ⟨k + 1, by omega, by go_num, by rw [HF.out]; exact HO4.out, HL4.out, HC4.out, HB4.out⟩
          case measure => simp [intOf]; omega
    · obtain rfl : k = rows.length := by omega
      rw [List.take_length] at HOK
      have HAL := Lib.hid (OwnI.ints HOK.out)
      have HNI := Lib.hid (OwnI.ints HNK.out)
      have hfe : rows.flatten = natI (cycs N s.1).flatten := by rw [HROW.out, natI_flatten]
      rw [hfe] at HAL
      have hlenF : (cycs N s.1).flatten.length = N := by
        have h1 := HRG.out.rings.range.length_eq
        rw [List.length_range] at h1; exact h1
      clear hfl hfN hfe
      go_wp2_with fail
      refine (isOrder_true _ _ a _ HNI.out (by rw [tab_len, HN.out]) (by rw [tab_len]; exact HCN.out)).mono ?_
      rintro e w3 ⟨rfl, rfl⟩
      go_wp2_with fail
      refine (isOrder_true _ _ a _ HAL.out (by rw [natI_len, hlenF, HN.out]) (fun k hk => by rw [natI_len, hlenF] at hk; exact natI_count _ HRG.out.nodup k (HRG.out.all k hk))).mono ?_
      rintro e w3 ⟨rfl, rfl⟩
      go_wp2
      go_ret
      exact ⟨rfl, HBK.out⟩

end Go.Proofs.Ytebkmegkdcnfaaa
