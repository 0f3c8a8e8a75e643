/- FnLinksProduct returns true: the walk of the law. -/
import Derived.Test.YtlcppgiahfobgaaLinks
namespace Go.Proofs.Ytlcppgiahfobgaa
open Go.RowKit

theorem one_pairs (ps : List (Int × Int)) : ∀ y ∈ pcells ps, y.oneCell' = true := by
  induction ps with
  | nil => intro y hy; cases hy
  | cons p ps ih =>
    intro y hy
    simp only [pcells, List.mem_cons] at hy
    rcases hy with rfl | rfl | hy
    · rfl
    · rfl
    · exact ih y hy

theorem sl_pair {w : World} {g : Nat} {a b : Int} (h0 : w.cell? ⟨g, 0, none⟩ = some (.int .i64 a)) (h1 : w.cell? ⟨g, 1, none⟩ = some (.int .i64 b)) : Sl w 2 (.slice (some ⟨g, 0, none⟩) 1 1) 1 (pcells [(a, b)]) := by
  refine ⟨rfl, _, _, rfl, Nat.le_refl _, by unfold maxLen; omega, fun _ => ⟨g, 0, rfl, fun j y hy => ?_⟩⟩
  match j with
  | 0 => simp [pcells] at hy; subst hy; exact h0
  | 1 => simp [pcells] at hy; subst hy; exact h1
  | j + 2 => simp [pcells] at hy

theorem own_prs {w : World} {base n : Nat} {v : Value} {cs : List Value} {ps : List (Int × Int)} (h : w.ownsRow base 34 2 v n cs) (hc : pcells ps = cs) (hn : ps.length = n) : Prs w v ps := by
  have := Sl.of_own h
  unfold Prs; rw [hc, hn]; exact this

theorem linksOf_count (N : Nat) (ps : List (Int × Int)) (k : Nat) (hk : k < N) : (linksOf N ps).count (k : Int) = 1 := by
  obtain ⟨d1, d2, d3, d4⟩ := linkAll_inv N (by omega) ps (id, id) (fun _ h => h) (fun _ h => h) (fun _ _ => rfl) (fun _ _ => rfl)
  exact tab_count (linkAll N (id, id) ps).1 (linkAll N (id, id) ps).2 d2 d3 d4 k hk

set_option maxHeartbeats 2000000 in
theorem linksProduct_none (a : Int) (u : Value) (ps : List (Int × Int)) (pa pb : Int) (w : World) (hu : Prs w u ps) (hl : ps.length * 16 ≤ 140737488351232) (hN : ix a 200 = 0) :
    Calls Try.prog 4 #[.int .i64 a, u, .agg #[.int .i64 pa, .int .i64 pb]] w fun e w' => e = .returned (.bool true) ∧ Bl w w' := by
  obtain ⟨i0, hi, hz0, hz1, hz2⟩ := info_parts pairInfo
  have HU := Lib.hid hu
  have HN := Lib.hid hN
  clear hu hN
  go_enter Try.func4, Try.ntmps4
  go_wp2_with fail
  have hbw : Bl w (w.alloc (.cells #[.int .i64 pa, .int .i64 pb] 34)) := bl_alloc (bl_refl _) _
  have q0 : (w.alloc (.cells #[.int .i64 pa, .int .i64 pb] 34)).cell? ⟨w.heap.size, 0, none⟩ = some (.int .i64 pa) := by simp
  have q1 : (w.alloc (.cells #[.int .i64 pa, .int .i64 pb] 34)).cell? ⟨w.heap.size, 1, none⟩ = some (.int .i64 pb) := by simp
  generalize w.alloc (.cells #[.int .i64 pa, .int .i64 pb] 34) = w0 at *
  refine (Links_impl a u ps _ (HU.out.bl hbw)).mono ?_
  rintro e w1 ⟨v, rfl, o1, b1⟩
  rw [HN.out] at o1
  obtain ⟨A, c, hv, _, hm, _⟩ := own_open o1
  rw [linksOf_len] at *
  subst hv
  have Q0 := (b1.cell (World.block_lt_of_cell? _ _ q0)).trans q0
  have Q1 := (b1.cell (World.block_lt_of_cell? _ _ q1)).trans q1
  have O1 := Lib.hid (OwnI.ints o1)
  have hlt1 : w.heap.size < w1.heap.size := World.block_lt_of_cell? _ _ Q0
  have B1 := Lib.hid (bl_trans hbw b1)
  clear o1 b1 hbw q0 q1 hm
  go_wp2_with fail
  refine (isOrder_true _ _ a _ O1.out (by rw [linksOf_len, HN.out]) (by rw [linksOf_len]; intro k hk; omega)).mono ?_
  rintro e w2 ⟨rfl, rfl⟩
  go_wp2
  go_region_law (first
    | (refine step_cat _ rfl (.tmp 22) (.tmp 23) _ rfl w.heap.size 34 i0 _ 2 16 Try.underlying26 hi hz0 hz1 hz2 rfl (by decide) (.slice (some ⟨w1.heap.size, 0, none⟩) 0 0) 0 [] rfl ?_ _ ps.length (pcells ps) rfl ?_ (one_pairs _) (by unfold maxLen; omega) (by omega) ?_ ?_
       · first | exact own_base (own_empty w1 _ _) B1.out.size | exact own_empty_at (heap_two_0 w1 _ _) B1.out.size
       · exact HU.out.bl (by first | exact bl_drew (bl_alloc B1.out _) | exact bl_drew (bl_alloc (bl_alloc B1.out _) _))
       · have := B1.out.size; simp; omega
       intro v3 w3 o3 c3 l3
       have b13 : Bl w1 w3 := bl_chg (by first | exact bl_drew (bl_alloc (bl_refl w1) _) | exact bl_drew (bl_alloc (bl_alloc (bl_refl w1) _) _)) c3 (fun i hi => by simp [Value.ownBlock] at hi; omega)
       have b3 : Bl w w3 := bl_trans B1.out b13
       have P0 := (b13.cell (World.block_lt_of_cell? _ _ Q0)).trans Q0
       have P1 := (b13.cell (World.block_lt_of_cell? _ _ Q1)).trans Q1
       have hlt3 : w.heap.size < w3.heap.size := World.block_lt_of_cell? _ _ P0)
    | (refine step_cat _ rfl (.tmp 22) (.tmp 23) _ rfl w.heap.size 34 i0 _ 2 16 Try.underlying26 hi hz0 hz1 hz2 rfl (by decide) (.slice (some ⟨w1.heap.size + 1, 0, none⟩) 0 0) 0 [] rfl ?_ _ ps.length (pcells ps) rfl ?_ (one_pairs _) (by unfold maxLen; omega) (by omega) ?_ ?_
       · exact own_empty_at (heap_two_1 w1 _ _) (by have := B1.out.size; omega)
       · exact HU.out.bl (by first | exact bl_drew (bl_alloc B1.out _) | exact bl_drew (bl_alloc (bl_alloc B1.out _) _))
       · have := B1.out.size; simp; omega
       intro v3 w3 o3 c3 l3
       have b13 : Bl w1 w3 := bl_chg (by first | exact bl_drew (bl_alloc (bl_refl w1) _) | exact bl_drew (bl_alloc (bl_alloc (bl_refl w1) _) _)) c3 (fun i hi => by simp [Value.ownBlock] at hi; omega)
       have b3 : Bl w w3 := bl_trans B1.out b13
       have P0 := (b13.cell (World.block_lt_of_cell? _ _ Q0)).trans Q0
       have P1 := (b13.cell (World.block_lt_of_cell? _ _ Q1)).trans Q1
       have hlt3 : w.heap.size < w3.heap.size := World.block_lt_of_cell? _ _ P0)
    | (refine step_cat _ rfl (.tmp 24) (.tmp 26) _ rfl w.heap.size 34 i0 _ 2 16 Try.underlying26 hi hz0 hz1 hz2 rfl (by decide) v3 (0 + ps.length) ([] ++ pcells ps) rfl ?_ _ 1 (pcells [(pa, pb)]) rfl ?_ (one_pairs _) (by unfold maxLen; omega) (by omega) ?_ ?_
       · first | exact o3 | exact o3.alloc _
       · first | exact sl_pair (World.cell?_alloc_new w3 _ _ 0) (World.cell?_alloc_new w3 _ _ 1) | exact sl_pair (chg_cell c3 ((cell_of_heap (heap_two_0 w1 _ _)).trans rfl) (by simp [Value.ownBlock])) (chg_cell c3 ((cell_of_heap (heap_two_0 w1 _ _)).trans rfl) (by simp [Value.ownBlock])) | exact sl_pair (chg_cell c3 ((cell_of_heap (heap_two_1 w1 _ _)).trans rfl) (by simp [Value.ownBlock])) (chg_cell c3 ((cell_of_heap (heap_two_1 w1 _ _)).trans rfl) (by simp [Value.ownBlock]))
       · have := b3.size; simp; omega
       intro v4 w4 o4 c4 l4
       have b4 : Bl w w4 := by first | exact bl_own b3 o3 c4 | exact bl_own (bl_alloc b3 _) (o3.alloc _) c4)
    | (go_simp
       go_at_call 18
       refine (Links_impl a v4 (ps ++ [(pa, pb)]) _ (own_prs o4 (by rw [pcells_append]; rfl) (by simp))).mono ?_
       rintro e w5 ⟨v5, rfl, o5, b5⟩
       have b6 := bl_trans b4 b5
       rw [HN.out, linksOf_len] at o5
       obtain ⟨A5, c5, hv5, _, _, _⟩ := own_open o5
       subst hv5
       clear o5 b5))
  all_goals
    have B6 := Lib.hid b6
    clear b6
    go_wp2
    go_ret
    exact ⟨rfl, B6.out⟩

end Go.Proofs.Ytlcppgiahfobgaa
