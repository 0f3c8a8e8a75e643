/- FnLinksProduct returns true where there are elements: the walk of the law. -/
import Derived.Test.YtlcppgiahfobgaaLinksProduct
namespace Go.Proofs.Ytlcppgiahfobgaa
open Go.RowKit

theorem ints_tab {w : World} {base n : Nat} {v : Value} {f g : Nat → Nat} (h : w.ownsRow base 3 1 v n ((tab f n).map (Value.int .i64))) (e : f = g) : Ints w v (tab g n) := by
  subst e
  have := Sl.of_own h
  unfold Ints; rw [tab_len]; exact this

set_option maxHeartbeats 4000000 in
theorem linksProduct_some (a : Int) (u : Value) (ps : List (Int × Int)) (pa pb : Int) (w : World) (hu : Prs w u ps) (hl : ps.length * 16 ≤ 140737488351232) (N : Nat) (hN : ix a 200 = N) (hN0 : 0 < N) :
    Calls Try.prog 4 #[.int .i64 a, u, .agg #[.int .i64 pa, .int .i64 pb]] w fun e w' => e = .returned (.bool true) ∧ Bl w w' := by
  obtain ⟨i0, hi, hz0, hz1, hz2⟩ := info_parts pairInfo
  have HU := Lib.hid hu
  have HN := Lib.hid hN
  have hN2 : N < 200 := by rw [← hN]; exact ix_lt _ (by omega)
  clear hu hN
  go_enter Try.func4, Try.ntmps4
  go_wp2_with fail
  have hbw : Bl w (w.alloc (.cells #[.int .i64 pa, .int .i64 pb] 34)) := bl_alloc (bl_refl _) _
  have q0 : (w.alloc (.cells #[.int .i64 pa, .int .i64 pb] 34)).cell? ⟨w.heap.size, 0, none⟩ = some (.int .i64 pa) := by simp
  have q1 : (w.alloc (.cells #[.int .i64 pa, .int .i64 pb] 34)).cell? ⟨w.heap.size, 1, none⟩ = some (.int .i64 pb) := by simp
  generalize w.alloc (.cells #[.int .i64 pa, .int .i64 pb] 34) = w0 at *
  refine (Links_impl a u ps _ (HU.out.bl hbw)).mono ?_
  rintro e w1 ⟨v, rfl, o1, b1⟩
  rw [HN.out] at o1
  obtain ⟨A, c, hv, _, hm, hA⟩ := own_open o1
  rw [linksOf_len] at *
  obtain ⟨g, rfl, hg1, hg2⟩ := hA hN0
  subst hv
  obtain ⟨d1, d2, d3, d4⟩ := linkAll_inv N hN0 ps (id, id) (fun _ h => h) (fun _ h => h) (fun _ _ => rfl) (fun _ _ => rfl)
  have hL : linksOf N (ps ++ [(pa, pb)]) = tab (lnx (linkAll N (id, id) ps).1 (linkAll N (id, id) ps).2 (ix pa N) (ix pb N)) N := by
    unfold linksOf linkAll; rw [List.foldl_append]; rfl
  have HL := Lib.hid hL
  clear hL
  have hcnt := linksOf_count N ps
  have hT : linksOf N ps = tab (linkAll N (id, id) ps).1 N := rfl
  rw [hT] at hcnt o1
  clear hT
  generalize linkAll N (id, id) ps = s at *
  have D1 := Lib.hid d1
  have D2 := Lib.hid d2
  have D3 := Lib.hid d3
  have D4 := Lib.hid d4
  have HC := Lib.hid hcnt
  have Q0 := (b1.cell (World.block_lt_of_cell? _ _ q0)).trans q0
  have Q1 := (b1.cell (World.block_lt_of_cell? _ _ q1)).trans q1
  have hlt1 : w.heap.size < w1.heap.size := World.block_lt_of_cell? _ _ Q0
  have O1 := Lib.hid (own_base o1 hbw.size)
  have hints : Ints w1 (.slice (some ⟨g, 0, none⟩) N c) (tab s.1 N) := by
    have := Sl.of_own o1; unfold Ints; rw [tab_len]; exact this
  have HI := Lib.hid hints
  have B1 := Lib.hid (bl_trans hbw b1)
  have hgw : w.heap.size < g := by have : w.heap.size < w0.heap.size := World.block_lt_of_cell? _ _ q0; omega
  clear o1 b1 hbw q0 q1 d1 d2 d3 d4 hcnt hints hA
  unfold maxLen at hm
  have l1 := ix_lt pa hN0
  have l2 := ix_lt pb hN0
  have l3 := D2.out _ l2
  go_wp2_with fail
  refine (isOrder_true _ _ a _ HI.out (by rw [tab_len, HN.out]) (by rw [tab_len]; exact HC.out)).mono ?_
  rintro e w2 ⟨rfl, rfl⟩
  have hn0 : ((N : Int) == 0) = false := by rw [beq_eq_false_iff_ne]; omega
  go_wp2
  go_cut [8, 9] (fun s8 s9 wx => s8 = .int .i64 (ix pa N) ∧ s9 = .int .i64 (s.2 (ix pb N)) ∧ Bl w1 wx)
  case first =>
    go_region_law (first
      | (go_simp; go_at_call_of 25 pa; refine (At_ix pa N _ hN0 (by omega)).mono ?_; rintro e w2 ⟨rfl, rfl⟩)
      | (go_simp; go_at_call_of 25 pb; refine (At_ix pb N _ hN0 (by omega)).mono ?_; rintro e w3 ⟨rfl, rfl⟩)
      | (go_simp; go_at_call 26; refine (inverse_any _ N s.1 s.2 _ (HI.out.bl (bl_drew (bl_refl _))) (by omega) D1.out D2.out D3.out D4.out).mono ?_; rintro e w2 ⟨v2, rfl, o2, b2⟩; have P0 := (b2.cell (World.block_lt_of_cell? _ _ Q0)).trans Q0; have P1 := (b2.cell (World.block_lt_of_cell? _ _ Q1)).trans Q1; rw [tab_len] at o2; obtain ⟨A2, c2, hv2, hn2, hm2, hA2⟩ := own_open o2; obtain ⟨g2, rfl, _, _⟩ := hA2 hN0; subst hv2; have R2 : w2.cell? ⟨g2, ix pb N, none⟩ = some (.int .i64 (s.2 (ix pb N))) := (own_cell o2 (by omega)).trans (by rw [List.getD_eq_getElem?_getD, List.getElem?_map, tab_get? _ l2]; rfl); have H2 := Lib.hid (bl_trans (bl_drew (bl_refl w1)) b2); clear hA2 o2 b2))
    all_goals (go_wp2_with fail; go_meet; exact ⟨rfl, rfl, H2.out⟩)
  case rest =>
  obtain ⟨rfl, rfl, b2⟩ := hcut
  obtain ⟨w2, rfl⟩ : ∃ w2 : World, w2 = wc := ⟨_, rfl⟩
  have P0 := (b2.cell (World.block_lt_of_cell? _ _ Q0)).trans Q0
  have P1 := (b2.cell (World.block_lt_of_cell? _ _ Q1)).trans Q1
  have O2 := Lib.hid (own_bl O1.out b2)
  have B2 := Lib.hid (bl_trans B1.out b2)
  clear b2 Q0 Q1
  have c0 : w2.cell? ⟨g, ix pa N, none⟩ = some (.int .i64 (s.1 (ix pa N))) := (own_cell O2.out (by omega)).trans (by rw [List.getD_eq_getElem?_getD, List.getElem?_map, tab_get? _ l1]; rfl)
  have c1 : w2.cell? ⟨g, s.2 (ix pb N), none⟩ = some (.int .i64 (s.1 (s.2 (ix pb N)))) := (own_cell O2.out (by omega)).trans (by rw [List.getD_eq_getElem?_getD, List.getElem?_map, tab_get? _ l3]; rfl)
  have hc2 : ∃ x, (w2.setCell ⟨g, ix pa N, none⟩ (.int .i64 (s.1 (s.2 (ix pb N))))).cell? ⟨g, s.2 (ix pb N), none⟩ = some x := ⟨_, own_cell (own_set O2.out _) (by omega)⟩
  obtain ⟨x, hc2⟩ := hc2
  have hf1 := own_frozen O2.out (ix pa N)
  have hf2 := own_frozen O2.out (s.2 (ix pb N))
  have H1 := own_set (k := ix pa N) O2.out (.int .i64 (s.1 (s.2 (ix pb N))))
  have H2 := own_set (k := s.2 (ix pb N)) H1 (.int .i64 (s.1 (ix pa N)))
  rw [← List.map_set, tab_upd, ← List.map_set, tab_upd] at H2
  have HH2 := Lib.hid H2
  have HB2 := Lib.hid (bl_set (p := ⟨g, s.2 (ix pb N), none⟩) (bl_set (p := ⟨g, ix pa N, none⟩) B2.out (Nat.le_of_lt hgw) (.int .i64 (s.1 (s.2 (ix pb N))))) (Nat.le_of_lt hgw) (.int .i64 (s.1 (ix pa N))))
  have hne : ¬ g = w.heap.size := by omega
  have hne2 : ¬ w.heap.size = g := by omega
  have R0 : ((w2.setCell ⟨g, ix pa N, none⟩ (.int .i64 (s.1 (s.2 (ix pb N))))).setCell ⟨g, s.2 (ix pb N), none⟩ (.int .i64 (s.1 (ix pa N)))).cell? ⟨w.heap.size, 0, none⟩ = some (.int .i64 pa) := by
    rw [World.cell?_setCell_other _ _ _ _ (by simp), World.cell?_setCell_other _ _ _ _ (by simp)]; exact P0
  have R1 : ((w2.setCell ⟨g, ix pa N, none⟩ (.int .i64 (s.1 (s.2 (ix pb N))))).setCell ⟨g, s.2 (ix pb N), none⟩ (.int .i64 (s.1 (ix pa N)))).cell? ⟨w.heap.size, 1, none⟩ = some (.int .i64 pb) := by
    rw [World.cell?_setCell_other _ _ _ _ (by simp), World.cell?_setCell_other _ _ _ _ (by simp)]; exact P1
  have hE : upd (upd s.1 (ix pa N) (s.1 (s.2 (ix pb N)))) (s.2 (ix pb N)) (s.1 (ix pa N)) = lnx s.1 s.2 (ix pa N) (ix pb N) := by
    unfold lnx; rw [D4.out _ l2]
  have HE := Lib.hid hE
  clear H1 H2 hE
  go_wp2
  obtain ⟨W3, hW3⟩ : ∃ W3, W3 = (w2.setCell ⟨g, ix pa N, none⟩ (.int .i64 (s.1 (s.2 (ix pb N))))).setCell ⟨g, s.2 (ix pb N), none⟩ (.int .i64 (s.1 (ix pa N))) := ⟨_, rfl⟩
  rw [← hW3] at R0 R1 ⊢
  have OX : Hid (W3.ownsRow w.heap.size 3 1 (.slice (some ⟨g, 0, none⟩) N c) N ((tab (upd (upd s.1 (ix pa N) (s.1 (s.2 (ix pb N)))) (s.2 (ix pb N)) (s.1 (ix pa N))) N).map (Value.int .i64))) := by rw [hW3]; exact HH2
  have BW : Hid (Bl w W3) := by rw [hW3]; exact HB2
  have hlt1 : w.heap.size < W3.heap.size := World.block_lt_of_cell? _ _ R0
  clear hW3 HH2 HB2 c0 c1 hc2 hf1 hf2 P0 P1 HI O1 O2 B1 B2 HC
  go_region_law (first
    | (refine step_cat _ rfl (.tmp 61) (.tmp 62) _ rfl w.heap.size 34 i0 _ 2 16 Try.underlying26 hi hz0 hz1 hz2 rfl (by decide) (.slice (some ⟨W3.heap.size, 0, none⟩) 0 0) 0 [] rfl ?_ _ ps.length (pcells ps) rfl ?_ (one_pairs _) (by unfold maxLen; omega) (by omega) ?_ ?_
       · first | exact own_base (own_empty W3 _ _) BW.out.size | exact own_empty_at (heap_two_0 W3 _ _) BW.out.size
       · exact HU.out.bl (by first | exact bl_drew (bl_alloc BW.out _) | exact bl_drew (bl_alloc (bl_alloc BW.out _) _))
       · have := BW.out.size; simp; omega
       intro v3 w3 o3 c3 l3
       have b13 : Bl W3 w3 := bl_chg (by first | exact bl_drew (bl_alloc (bl_refl W3) _) | exact bl_drew (bl_alloc (bl_alloc (bl_refl W3) _) _)) c3 (fun i hi => by simp [Value.ownBlock] at hi; omega)
       have b3 : Bl w w3 := bl_trans BW.out b13
       have P0 := (b13.cell (World.block_lt_of_cell? _ _ R0)).trans R0
       have P1 := (b13.cell (World.block_lt_of_cell? _ _ R1)).trans R1
       have OX3 := own_bl OX.out b13
       have hlt3 : w.heap.size < w3.heap.size := World.block_lt_of_cell? _ _ P0)
    | (refine step_cat _ rfl (.tmp 61) (.tmp 62) _ rfl w.heap.size 34 i0 _ 2 16 Try.underlying26 hi hz0 hz1 hz2 rfl (by decide) (.slice (some ⟨W3.heap.size + 1, 0, none⟩) 0 0) 0 [] rfl ?_ _ ps.length (pcells ps) rfl ?_ (one_pairs _) (by unfold maxLen; omega) (by omega) ?_ ?_
       · exact own_empty_at (heap_two_1 W3 _ _) (by have := BW.out.size; omega)
       · exact HU.out.bl (by first | exact bl_drew (bl_alloc BW.out _) | exact bl_drew (bl_alloc (bl_alloc BW.out _) _))
       · have := BW.out.size; simp; omega
       intro v3 w3 o3 c3 l3
       have b13 : Bl W3 w3 := bl_chg (by first | exact bl_drew (bl_alloc (bl_refl W3) _) | exact bl_drew (bl_alloc (bl_alloc (bl_refl W3) _) _)) c3 (fun i hi => by simp [Value.ownBlock] at hi; omega)
       have b3 : Bl w w3 := bl_trans BW.out b13
       have P0 := (b13.cell (World.block_lt_of_cell? _ _ R0)).trans R0
       have P1 := (b13.cell (World.block_lt_of_cell? _ _ R1)).trans R1
       have OX3 := own_bl OX.out b13
       have hlt3 : w.heap.size < w3.heap.size := World.block_lt_of_cell? _ _ P0)
    | (refine step_cat _ rfl (.tmp 63) (.tmp 65) _ rfl w.heap.size 34 i0 _ 2 16 Try.underlying26 hi hz0 hz1 hz2 rfl (by decide) v3 (0 + ps.length) ([] ++ pcells ps) rfl ?_ _ 1 (pcells [(pa, pb)]) rfl ?_ (one_pairs _) (by unfold maxLen; omega) (by omega) ?_ ?_
       · first | exact o3 | exact o3.alloc _
       · first | exact sl_pair (World.cell?_alloc_new w3 _ _ 0) (World.cell?_alloc_new w3 _ _ 1) | exact sl_pair (chg_cell c3 ((cell_of_heap (heap_two_0 W3 _ _)).trans rfl) (by simp [Value.ownBlock])) (chg_cell c3 ((cell_of_heap (heap_two_0 W3 _ _)).trans rfl) (by simp [Value.ownBlock])) | exact sl_pair (chg_cell c3 ((cell_of_heap (heap_two_1 W3 _ _)).trans rfl) (by simp [Value.ownBlock])) (chg_cell c3 ((cell_of_heap (heap_two_1 W3 _ _)).trans rfl) (by simp [Value.ownBlock]))
       · have := b3.size; simp; omega
       intro v4 w4 o4 c4 l4
       have b4 : Bl w w4 := by first | exact bl_own b3 o3 c4 | exact bl_own (bl_alloc b3 _) (o3.alloc _) c4
       have OX4 := own_chg (own_bl OX3 (by first | exact bl_refl _ | exact bl_alloc (bl_refl _) _)) c4 (fun g' hg' hg'' => own_ne OX3 o3 (by decide) g' hg' hg''))
    | (go_simp
       go_at_call 18
       refine (Links_impl a v4 (ps ++ [(pa, pb)]) _ (own_prs o4 (by rw [pcells_append]; rfl) (by simp))).mono ?_
       rintro e w5 ⟨v5, rfl, o5, b5⟩
       rw [HN.out, HL.out] at o5
       have b6 := bl_trans b4 b5
       have OX5 := own_bl OX4 b5
       clear b5)
    | (go_simp
       go_at_call 27
       refine (same_true v5 _ _ _ (OwnI.ints o5) (ints_tab OX5 HE.out)).mono ?_
       rintro e w7 ⟨rfl, b7⟩
       have B7 := Lib.hid (bl_trans b6 b7)))
  all_goals
    clear o3 o4 o5 OX3 OX4 OX5 c3 c4 b3 b4 b6 b7 b13
    go_wp2
    go_ret
    exact ⟨rfl, B7.out⟩

theorem linksProduct_any (a : Int) (u : Value) (ps : List (Int × Int)) (pa pb : Int) (w : World) (hu : Prs w u ps) (hl : ps.length * 16 ≤ 140737488351232) :
    Calls Try.prog 4 #[.int .i64 a, u, .agg #[.int .i64 pa, .int .i64 pb]] w fun e w' => e = .returned (.bool true) ∧ Bl w w' := by
  rcases Nat.eq_zero_or_pos (ix a 200) with h | h
  · exact linksProduct_none a u ps pa pb w hu hl h
  · exact linksProduct_some a u ps pa pb w hu hl _ rfl h

end Go.Proofs.Ytlcppgiahfobgaa
