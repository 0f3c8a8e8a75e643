/- FnLinksOne returns true: the walk of the law. -/
import Derived.Test.YtebkmegkdcnfaaaCyclesNext
import Derived.Test.YtebkmegkdcnfaaaLinksProduct
namespace Go.Proofs.Ytebkmegkdcnfaaa
open Go.RowKit

theorem OwnSS.ne_any {w : World} {base base' sz : Nat} {v v' : Value} {rows : List (List Int)} {us : List Value} {n : Nat} {cs : List Value} (h : OwnSS w base v rows us) {e : TypeId} (h' : w.ownsRow base' e sz v' n cs) (h1 : e ≠ 23) (h2 : e ≠ 3) : ∀ g, SSb v us g → ¬ v'.ownBlock = some g := by
  intro g hg hg'
  obtain ⟨cur, t, e, ht⟩ := h.kind hg
  obtain ⟨cur', e'⟩ := own_heap h' hg'
  rw [e] at e'
  simp at e'
  rcases ht with rfl | rfl
  · exact h1 e'.2.symm
  · exact h2 e'.2.symm
theorem heap_up {w : World} {g : Nat} {o : Obj} (h : w.heap[g]? = some o) (o' : Obj) : (w.alloc o').heap[g]? = some o :=
  (Below.heap_alloc w o' g (lt_of_heap h)).trans h
theorem heap_bl {w w' : World} {g : Nat} {o : Obj} (h : w.heap[g]? = some o) (hb : Bl w w') : w'.heap[g]? = some o := (hb.block g (lt_of_heap h)).trans h
theorem heap_chg {S : Nat → Prop} {w w' : World} {g : Nat} {o : Obj} (h : w.heap[g]? = some o) (hc : Chg S w w') (hs : ¬ S g) : w'.heap[g]? = some o := (hc.block g (lt_of_heap h) hs).trans h
theorem heap_one (w : World) (a : Obj) : (w.alloc a).heap[w.heap.size]? = some a := heap_alloc_new w a
theorem heap_one_d (w : World) (a : Obj) : (w.alloc a).drew.heap[w.heap.size]? = some a := heap_alloc_new w a
theorem heap_two_0n (w : World) (a b : Obj) : ((w.alloc a).alloc b).heap[w.heap.size]? = some a := heap_two_0 w a b
theorem heap_two_1n (w : World) (a b : Obj) : ((w.alloc a).alloc b).heap[w.heap.size + 1]? = some b := heap_two_1 w a b
theorem World.size_drew (w : World) : w.drew.heap.size = w.heap.size := rfl
theorem sl_pair_heap {w : World} {g : Nat} {a b : Int} {t : TypeId} (h : w.heap[g]? = some (.cells #[.int .i64 a, .int .i64 b] t (0, 0))) : Sl w 2 (.slice (some ⟨g, 0, none⟩) 1 1) 1 (pcells [(a, b)]) :=
  sl_pair ((cell_of_heap h).trans rfl) ((cell_of_heap h).trans rfl)

set_option maxRecDepth 100000 in
set_option maxHeartbeats 40000000 in
theorem linksOne_some (a : Int) (u : Value) (ps : List (Int × Int)) (pa pb : Int) (w : World) (hu : Prs w u ps) (hl : ps.length * 16 ≤ 140737488351232) (N : Nat) (hN : ix a 200 = N) (hN0 : 0 < N) :
    Calls Try.prog 6 #[.int .i64 a, u, .agg #[.int .i64 pa, .int .i64 pb]] w fun e w' => e = .returned (.bool true) ∧ Bl w w' := by
  obtain ⟨i0, hi, hz0, hz1, hz2⟩ := info_parts pairInfo
  have HU := Lib.hid hu
  have HN := Lib.hid hN
  have hN2 : N < 200 := by rw [← hN]; exact ix_lt _ (by omega)
  clear hu hN
  go_enter Try.func6, Try.ntmps6
  go_wp2_with fail
  have hbw : Bl w (w.alloc (.cells #[.int .i64 pa, .int .i64 pb] 47)) := bl_alloc (bl_refl _) _
  have q0 : (w.alloc (.cells #[.int .i64 pa, .int .i64 pb] 47)).cell? ⟨w.heap.size, 0, none⟩ = some (.int .i64 pa) := by simp
  have q1 : (w.alloc (.cells #[.int .i64 pa, .int .i64 pb] 47)).cell? ⟨w.heap.size, 1, none⟩ = some (.int .i64 pb) := by simp
  generalize w.alloc (.cells #[.int .i64 pa, .int .i64 pb] 47) = w0 at *
  refine (Links_impl a u ps _ (HU.out.bl hbw)).mono ?_
  rintro e w1 ⟨v, rfl, o1, b1⟩
  rw [HN.out] at o1
  obtain ⟨A, c, hv, hcN, hm, hA⟩ := own_open o1
  rw [linksOf_len] at *
  obtain ⟨g, rfl, hg1, hg2⟩ := hA hN0
  subst hv
  have hcnt := linksOf_count N ps
  have hT : linksOf N ps = tab (linkAll N (id, id) ps).1 N := rfl
  rw [hT] at hcnt o1
  clear hT
  have HC := Lib.hid hcnt
  have Q0 := (b1.cell (World.block_lt_of_cell? _ _ q0)).trans q0
  have Q1 := (b1.cell (World.block_lt_of_cell? _ _ q1)).trans q1
  have hints : Ints w1 (.slice (some ⟨g, 0, none⟩) N c) (tab (linkAll N (id, id) ps).1 N) := by
    have := Sl.of_own o1; unfold Ints; rw [tab_len]; exact this
  have HI := Lib.hid hints
  have B1 := Lib.hid (bl_trans hbw b1)
  clear o1 b1 hbw q0 q1 hcnt hints hA
  unfold maxLen at hm
  have l1 := ix_lt pa hN0
  have l2 := ix_lt pb hN0
  go_wp2_with fail
  refine (isOrder_true _ _ a _ HI.out (by rw [tab_len, HN.out]) (by rw [tab_len]; exact HC.out)).mono ?_
  rintro e w2 ⟨rfl, rfl⟩
  have hn0 : ((N : Int) == 0) = false := by rw [beq_eq_false_iff_ne]; omega
  have hB1 := B1.out.size
  have hlt1 : w.heap.size < w1.heap.size := World.block_lt_of_cell? _ _ Q0
  have CN1 := Lib.hid (show cyclesOf N ps = rowsI (cycs N (linkAll N (id, id) ps).1) from rfl)
  have CN2 := Lib.hid (show cyclesOf N (ps ++ [(pa, pb)]) = rowsI (cycs N (lnx (linkAll N (id, id) ps).1 (linkAll N (id, id) ps).2 (ix pa N) (ix pb N))) by unfold cyclesOf linkAll; rw [List.foldl_append]; rfl)
  generalize hR1 : cyclesOf N ps = R1 at *
  generalize hR2 : cyclesOf N (ps ++ [(pa, pb)]) = R2 at *
  have HR1 := Lib.hid hR1
  have HR2 := Lib.hid hR2
  clear hR1 hR2
  go_wp2
  go_cut [8, 9] (fun s8 s9 wx => Rowss wx s8 R1 ∧ Rowss wx s9 R2 ∧ Bl w1 wx)
  case first =>
    go_region_law (first
      | (refine step_cat _ rfl (.tmp 26) (.tmp 27) _ rfl w.heap.size 47 i0 _ 2 16 Try.underlying37 hi hz0 hz1 hz2 rfl (by decide) (.slice (some ⟨_, 0, none⟩) 0 0) 0 [] rfl ?_ _ ps.length (pcells ps) rfl ?_ (one_pairs _) (by unfold maxLen; omega) (by omega) ?_ ?_
         · refine own_empty_at ?_ (by omega)
           first | with_reducible exact hE2 | with_reducible exact heap_up hE2 _ | with_reducible exact heap_one w2 _ | with_reducible exact heap_two_0n w2 _ _ | with_reducible exact heap_two_1n w2 _ _
         · refine Sl.bl HU.out ?_
           first | with_reducible exact b02 | with_reducible exact bl_alloc b02 _ | with_reducible exact bl_alloc (bl_alloc b02 _) _
         · (try simp only [World.size_alloc]); omega
         intro v3 w3 o3 c3 l3
         have b13 : Bl w1 w3 := by
           refine bl_chg ?_ c3 (fun i hi => ?_)
           · first | with_reducible exact b12 | with_reducible exact bl_alloc b12 _ | with_reducible exact bl_alloc (bl_alloc b12 _) _
           · simp [Value.ownBlock] at hi; omega
         have X3 : OwnSS w3 w1.heap.size v2 R1 us2 := by
           refine OwnSS.chg (w := _) ?_ c3 (fun g hg e => ?_)
           · first | with_reducible exact o2 | with_reducible exact OwnSS.bl o2 (bl_alloc (bl_refl w2) _) | with_reducible exact OwnSS.bl o2 (bl_alloc (bl_alloc (bl_refl w2) _) _)
           · have h1 := hlt2 g hg
             simp [Value.ownBlock] at e
             omega
         have hs13 := c3.size
         have hQ3 := b13.size
         (try simp only [World.size_alloc] at hs13)
         have R0 := (b13.cell (World.block_lt_of_cell? _ _ Q0)).trans Q0
         have R1' := (b13.cell (World.block_lt_of_cell? _ _ Q1)).trans Q1
         have hwl3 : w.heap.size < w3.heap.size := World.block_lt_of_cell? _ _ R0
         (first
          | (have hP3 : w3.heap[w1.heap.size]? = some (.cells #[.int .i64 pa, .int .i64 pb] 47 (0, 0)) := by
               refine heap_chg ?_ c3 (by simp [Value.ownBlock] <;> omega)
               first | with_reducible exact hP2 | with_reducible exact heap_up hP2 _)
          | (have hP3 : w3.heap[w1.heap.size + 1]? = some (.cells #[.int .i64 pa, .int .i64 pb] 47 (0, 0)) := by
               refine heap_chg ?_ c3 (by simp [Value.ownBlock] <;> omega)
               first | with_reducible exact hP2 | with_reducible exact heap_up hP2 _)
          | (have hP3 : w3.heap[w2.heap.size]? = some (.cells #[.int .i64 pa, .int .i64 pb] 47 (0, 0)) := by
               refine heap_chg ?_ c3 (by simp [Value.ownBlock] <;> omega)
               first | with_reducible exact heap_one w2 _ | with_reducible exact heap_two_0n w2 _ _)
          | (have hP3 : w3.heap[w2.heap.size + 1]? = some (.cells #[.int .i64 pa, .int .i64 pb] 47 (0, 0)) := by
               refine heap_chg ?_ c3 (by simp [Value.ownBlock] <;> omega)
               first | with_reducible exact heap_two_1n w2 _ _)
          | skip)
         have hl3 : ∀ i, v3.ownBlock = some i → w1.heap.size ≤ i := fun i hi => by
           rcases l3 i hi with h | h
           · simp [Value.ownBlock] at h; omega
           · (try simp only [World.size_alloc] at h); omega
         clear l3 c3 o2 hlt2 P0 P1)
      | (refine step_cat _ rfl (.tmp 28) (.tmp 30) _ rfl w.heap.size 47 i0 _ 2 16 Try.underlying37 hi hz0 hz1 hz2 rfl (by decide) v3 (0 + ps.length) ([] ++ pcells ps) rfl ?_ (.slice (some ⟨_, 0, none⟩) 1 1) 1 (pcells [(pa, pb)]) rfl ?_ (one_pairs _) (by unfold maxLen; omega) (by omega) ?_ ?_
         · first | with_reducible exact o3 | exact o3.alloc _
         · refine sl_pair_heap (t := 47) ?_
           first | with_reducible exact hP3 | with_reducible exact heap_one w3 _
         · (try simp only [World.size_alloc]); omega
         intro v4 w4 o4 c4 l4
         have b14 : Bl w1 w4 := by
           refine bl_chg ?_ c4 hl3
           first | with_reducible exact b13 | with_reducible exact bl_alloc b13 _
         have X4 : OwnSS w4 w1.heap.size v2 R1 us2 := by
           refine OwnSS.chg (w := _) ?_ c4 (OwnSS.ne_any X3 o3 (by decide) (by decide))
           first | with_reducible exact X3 | with_reducible exact OwnSS.bl X3 (bl_alloc (bl_refl w3) _)
         clear l4 c4 o3 X3 b13 hl3)
      | (go_simp
         go_at_call_of 22 u
         refine (Cycles_impl a u ps _ (HU.out.bl ?_)).mono ?_
         · first | with_reducible exact bl_drew B1.out | with_reducible exact bl_drew (bl_alloc B1.out _) | with_reducible exact bl_drew (bl_alloc (bl_alloc B1.out _) _)
         rintro e w2 ⟨v2, us2, rfl, o2, b2⟩
         rw [HN.out, HR1.out] at o2
         have b12 : Bl w1 w2 := by
           refine bl_trans ?_ b2
           first | with_reducible exact bl_drew (bl_refl w1) | with_reducible exact bl_drew (bl_alloc (bl_refl w1) _) | with_reducible exact bl_drew (bl_alloc (bl_alloc (bl_refl w1) _) _)
         have hs12 := b2.size
         have hQ := b12.size
         have hlt2 := o2.lt
         (try simp only [World.size_drew] at hs12 hlt2)
         (try simp only [World.size_alloc] at hs12 hlt2)
         replace o2 : OwnSS w2 w1.heap.size v2 R1 us2 := o2.base (by (try simp only [World.size_drew]); (try simp only [World.size_alloc]); omega)
         have P0 := (b12.cell (World.block_lt_of_cell? _ _ Q0)).trans Q0
         have P1 := (b12.cell (World.block_lt_of_cell? _ _ Q1)).trans Q1
         have b02 := bl_trans B1.out b12
         have hwl2 : w.heap.size < w2.heap.size := World.block_lt_of_cell? _ _ P0
         (try (have hE2 : w2.heap[w1.heap.size]? = some (.cells #[] 47 (0, 0)) := by
                 refine heap_bl ?_ b2
                 first | with_reducible exact heap_one_d w1 _ | with_reducible exact heap_two_0 w1 _ _))
         (try (have hE2 : w2.heap[w1.heap.size + 1]? = some (.cells #[] 47 (0, 0)) := by
                 refine heap_bl ?_ b2
                 with_reducible exact heap_two_1 w1 _ _))
         (try (have hP2 : w2.heap[w1.heap.size]? = some (.cells #[.int .i64 pa, .int .i64 pb] 47 (0, 0)) := by
                 refine heap_bl ?_ b2
                 first | with_reducible exact heap_one_d w1 _ | with_reducible exact heap_two_0 w1 _ _))
         (try (have hP2 : w2.heap[w1.heap.size + 1]? = some (.cells #[.int .i64 pa, .int .i64 pb] 47 (0, 0)) := by
                 refine heap_bl ?_ b2
                 with_reducible exact heap_two_1 w1 _ _))
         clear b2)
      | (go_simp
         go_at_call_of 22 v4
         refine (Cycles_impl a v4 (ps ++ [(pa, pb)]) _ (own_prs o4 (by rw [pcells_append]; rfl) (by simp))).mono ?_
         rintro e w5 ⟨v5, us5, rfl, o5, b5⟩
         rw [HN.out, HR2.out] at o5
         have FIN := Lib.hid (And.intro (OwnSS.rowss (X4.bl b5)) (And.intro (OwnSS.rowss o5) (bl_trans b14 b5)))
         clear o5 b5 X4 b14))
    all_goals (go_wp2_with fail; go_meet; exact FIN.out)
  case rest =>
  obtain ⟨hr8, hr9, b2⟩ := hcut
  obtain ⟨w2, rfl⟩ : ∃ w2 : World, w2 = wc := ⟨_, rfl⟩
  have P0 := (b2.cell (World.block_lt_of_cell? _ _ Q0)).trans Q0
  have P1 := (b2.cell (World.block_lt_of_cell? _ _ Q1)).trans Q1
  have HR8 := Lib.hid hr8
  have HR9 := Lib.hid hr9
  have I2 := Lib.hid (HI.out.bl b2)
  have B2 := Lib.hid (bl_trans B1.out b2)
  obtain ⟨A8, c8, e8, hc8, hm8, hx8⟩ := hr8.open
  obtain ⟨A9, c9, e9, hc9, hm9, hx9⟩ := hr9.open
  clear hx8 hx9
  subst e8 e9
  unfold maxLen at hm8 hm9
  clear hr8 hr9 b2 Q0 Q1
  have HP := Lib.hid (linkAll_perm N ps)
  generalize linkAll N (id, id) ps = s at *
  go_wp2
  go_quiet ((go_at_call 15; exact Calls.quiet_of_same (At_ix _ N _ hN0 (by omega))))
  obtain ⟨W, hW⟩ : ∃ W, W = w2.drewN nq := ⟨_, rfl⟩
  rw [← hW]
  have hbW : Bl w2 W := by rw [hW]; exact bl_drewN (bl_refl _) _
  clear hW P0 P1
  replace HR8 := Lib.hid (HR8.out.bl hbW)
  replace HR9 := Lib.hid (HR9.out.bl hbW)
  replace I2 := Lib.hid (I2.out.bl hbW)
  replace B2 := Lib.hid (bl_trans B2.out hbW)
  clear hbW
  have HS := Lib.hid (fun e => lnx_same (b := ix pb N) HP.out l1 e)
  have HSP := Lib.hid (fun h1 h2 => cycs_split HP.out l1 l2 h1 h2)
  have HMG := Lib.hid (fun h1 => cycs_merge HP.out l1 l2 h1)
  have HT1 := Lib.hid (fun b => together_cycs HP.out l1 b)
  have HT2 := Lib.hid (fun b => together_cycs (lnx_perm HP.out l1 l2) l1 b)
  generalize lnx s.1 s.2 (ix pa N) (ix pb N) = f' at *
  generalize ix pa N = p at *
  generalize ix pb N = q at *
  have en : W.cell? ⟨g, p, none⟩ = some (.int .i64 (s.1 p)) := by
    obtain ⟨b, off, hA, e⟩ := I2.out.get (k := p) (by rw [tab_len]; exact l1)
    simp only [Option.some.injEq, Addr.mk.injEq, and_true] at hA
    obtain ⟨rfl, rfl⟩ := hA
    rw [tab_get _ l1, Nat.zero_add] at e
    exact e
  have L1 : R1.length = (cycs N s.1).length := by rw [CN1.out, rowsI_len]
  have L2 : R2.length = (cycs N f').length := by rw [CN2.out, rowsI_len]
  by_cases h1 : s.1 p = q
  · have hl : R2.length = R1.length := by rw [L1, L2, HS.out h1]
    have hb : (((s.1 p : Nat) : Int) == ((q : Nat) : Int)) = true := by rw [h1]; simp
    clear L1 L2 h1
    rw [hl]
    go_wp2
    go_ret
    exact ⟨rfl, B2.out⟩
  · have hb : (((s.1 p : Nat) : Int) == ((q : Nat) : Int)) = false := by rw [beq_eq_false_iff_ne]; omega
    by_cases h2 : q ∈ cyc N s.1 p
    · obtain ⟨x1, x2⟩ := HSP.out h1 h2
      have hl : R2.length = R1.length + 1 := by rw [L1, L2, x1]
      have ht1 : togetherL R1 p q = true := by rw [CN1.out, HT1.out, decide_eq_true h2]
      have ht2 : togetherL R2 p (s.1 p) = false := by rw [CN2.out, HT2.out, decide_eq_false x2]
      clear L1 L2 h1 h2 x1 x2
      rw [hl] at HR9 hc9 ⊢
      clear hl
      have HT1' := Lib.hid ht1
      have HT2' := Lib.hid ht2
      clear ht1 ht2
      generalize R1.length = n1 at *
      go_wp2_with fail
      refine (together_any _ R1 p q _ HR8.out).mono ?_
      rintro e w3 ⟨rfl, rfl⟩
      rw [HT1'.out]
      go_wp2_with fail
      refine (together_any _ R2 p (s.1 p) _ HR9.out).mono ?_
      rintro e w3 ⟨rfl, rfl⟩
      rw [HT2'.out]
      go_wp2
      go_ret
      exact ⟨rfl, B2.out⟩
    · obtain ⟨x1, x2⟩ := HMG.out h2
      have hl : R1.length = R2.length + 1 := by rw [L1, L2, x1]
      have ht1 : togetherL R1 p q = false := by rw [CN1.out, HT1.out, decide_eq_false h2]
      have ht2 : togetherL R2 p q = true := by rw [CN2.out, HT2.out, decide_eq_true x2]
      clear L1 L2 h1 h2 x1 x2
      rw [hl] at HR8 hc8 ⊢
      clear hl
      have HT1' := Lib.hid ht1
      have HT2' := Lib.hid ht2
      clear ht1 ht2
      generalize R2.length = n1 at *
      go_wp2_with fail
      refine (together_any _ R1 p q _ HR8.out).mono ?_
      rintro e w3 ⟨rfl, rfl⟩
      rw [HT1'.out]
      go_wp2_with fail
      refine (together_any _ R2 p q _ HR9.out).mono ?_
      rintro e w3 ⟨rfl, rfl⟩
      rw [HT2'.out]
      go_wp2
      go_ret
      exact ⟨rfl, B2.out⟩

set_option maxRecDepth 100000 in
set_option maxHeartbeats 4000000 in
theorem linksOne_none (a : Int) (u : Value) (ps : List (Int × Int)) (pa pb : Int) (w : World) (hu : Prs w u ps) (hN : ix a 200 = 0) :
    Calls Try.prog 6 #[.int .i64 a, u, .agg #[.int .i64 pa, .int .i64 pb]] w fun e w' => e = .returned (.bool true) ∧ Bl w w' := by
  have HU := Lib.hid hu
  have HN := Lib.hid hN
  clear hu hN
  go_enter Try.func6, Try.ntmps6
  go_wp2_with fail
  have hbw : Bl w (w.alloc (.cells #[.int .i64 pa, .int .i64 pb] 47)) := bl_alloc (bl_refl _) _
  generalize w.alloc (.cells #[.int .i64 pa, .int .i64 pb] 47) = w0 at *
  refine (Links_impl a u ps _ (HU.out.bl hbw)).mono ?_
  rintro e w1 ⟨v, rfl, o1, b1⟩
  rw [HN.out] at o1
  obtain ⟨A, c, hv, _, hm, hx⟩ := own_open o1
  clear hx
  rw [linksOf_len] at *
  subst hv
  have O1 := Lib.hid (OwnI.ints o1)
  have B1 := Lib.hid (bl_trans hbw b1)
  clear o1 b1 hbw hm
  go_wp2_with fail
  refine (isOrder_true _ _ a _ O1.out (by rw [linksOf_len, HN.out]) (by rw [linksOf_len]; intro k hk; omega)).mono ?_
  rintro e w2 ⟨rfl, rfl⟩
  go_wp2
  go_ret
  exact ⟨rfl, B1.out⟩

theorem linksOne_any (a : Int) (u : Value) (ps : List (Int × Int)) (pa pb : Int) (w : World) (hu : Prs w u ps) (hl : ps.length * 16 ≤ 140737488351232) :
    Calls Try.prog 6 #[.int .i64 a, u, .agg #[.int .i64 pa, .int .i64 pb]] w fun e w' => e = .returned (.bool true) ∧ Bl w w' := by
  rcases Nat.eq_zero_or_pos (ix a 200) with h | h
  · exact linksOne_none a u ps pa pb w hu h
  · exact linksOne_some a u ps pa pb w hu hl _ rfl h

end Go.Proofs.Ytebkmegkdcnfaaa
