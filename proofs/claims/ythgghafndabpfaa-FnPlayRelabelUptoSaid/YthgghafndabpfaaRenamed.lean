/- The walk of renamed. -/
import Derived.Test.YthgghafndabpfaaPlayRelabel
namespace Go.Proofs.Ythgghafndabpfaa
open Go.RowKit

set_option maxRecDepth 100000 in
set_option maxHeartbeats 2000000 in
theorem renamed_any (u v : Value) (ms : List Mv) (N : Nat) (g : Nat → Nat) (w : World) (hu : Mvs w u ms) (hv : Ints w v (tab g N)) (hl : ms.length ≤ 1048576) (hN : N < 200) :
    Calls Try.prog 12 #[u, v] w (NewMvs w (renMs N g ms)) := by
  obtain ⟨i0, hi, hz0, hz1, hz2⟩ := info_parts moveParts
  obtain ⟨A, c, rfl, hc, hm, hu⟩ := hu.open
  obtain ⟨B, d, rfl, hd, hm2, hv⟩ := hv.open
  rw [tab_len] at *
  have HV := Lib.hid hv
  have HU := Lib.hid hu
  clear hv hu
  unfold maxLen at hm hm2
  go_enter Try.func12, Try.ntmps12
  go_wp2
  go_loopw [5, 8, 14] (fun ov _ i wr => ∃ k : Nat, k ≤ ms.length ∧ i = .int .i64 k ∧ OwnM wr w.heap.size ov (renMs N g (ms.take k)) ∧ Bl w wr) (fun _ _ i _ => ms.length - (intOf i).toNat)
  case atStart => exact ⟨0, Nat.zero_le _, rfl, by rw [List.take_zero, renMs_nil]; exact own_empty _ _ _, bl_alloc (bl_refl _) _⟩
  case round =>
    obtain ⟨k, hk, rfl, hown, hbl⟩ := hrel
    have HO := Lib.hid hown
    have HB := Lib.hid hbl
    clear hown hbl
    by_cases hlt : k < ms.length
    · obtain ⟨b, off, rfl, hc1', hc2', hc3'⟩ := HU.out k hlt
      have r1 := (HB.out.cell (World.block_lt_of_cell? _ _ hc1')).trans hc1'
      have r2 := (HB.out.cell (World.block_lt_of_cell? _ _ hc2')).trans hc2'
      have r3 := (HB.out.cell (World.block_lt_of_cell? _ _ hc3')).trans hc3'
      have HT := Lib.hid (renMs_take N g ms k hlt)
      have HLN := Lib.hid (renMs_len N g (ms.take k))
      clear hc1' hc2' hc3'
      generalize ms[k] = m at *
      obtain ⟨op, em, mm⟩ := m
      rcases Nat.eq_zero_or_pos N with hN0 | hN0
      · subst hN0
        go_wp2
        go_roundw
        case rel => exact ⟨k + 1, by omega, by go_num, by rw [HT.out]; exact own_bl HO.out (bl_alloc (bl_refl _) _), bl_alloc HB.out _⟩
        case measure => simp [intOf]; omega
      · have hN1 : (0 : Int) < (N : Int) := by omega
        have l1 := ix_lt em hN0
        have l2 := ix_lt mm hN0
        obtain ⟨b1, off1, rfl, hd1⟩ := HV.out (ix em N) (by rw [tab_len]; exact l1)
        obtain ⟨b2, off2, hb2, hd2⟩ := HV.out (ix mm N) (by rw [tab_len]; exact l2)
        injection hb2 with hb2
        injection hb2 with hb3 hb4
        subst hb3 hb4
        rw [tab_get g l1] at hd1
        rw [tab_get g l2] at hd2
        have s1 := (HB.out.cell (World.block_lt_of_cell? _ _ hd1)).trans hd1
        have s2 := (HB.out.cell (World.block_lt_of_cell? _ _ hd2)).trans hd2
        have hbs := World.block_lt_of_cell? _ _ s1
        have hbw := World.block_lt_of_cell? _ _ hd1
        simp only at hbs hbw
        have hlen : (renMs N g (ms.take k)).length ≤ k := by
          have := HLN.out
          rw [List.length_take] at this
          omega
        have HE := Lib.hid (fun w => At_ix em N w hN0 (by omega))
        have HM := Lib.hid (fun w => At_ix mm N w hN0 (by omega))
        have HRM : Hid (renM N g (op, em, mm) = (op, ((g (ix em N) : Nat) : Int), ((g (ix mm N) : Nat) : Int))) := rfl
        clear hd1 hd2
        generalize ix em N = E at *
        generalize ix mm N = M at *
        have HO' : Hid (wr.ownsRow w.heap.size 27 3 u5 (renMs N g (ms.take k)).length (mcells (renMs N g (ms.take k)))) := HO
        clear HO
        generalize hC1 : renMs N g (ms.take (k + 1)) = C1 at *
        have HC1 := Lib.hid hC1
        clear hC1
        generalize renMs N g (ms.take k) = C0 at *
        generalize g E = gE at *
        generalize g M = gM at *
        generalize hn0 : C0.length = n0 at *
        have HNN := Lib.hid hn0
        clear hn0
        obtain ⟨W, hW⟩ : ∃ W, W = wr.alloc (.cells #[.int .i64 op, .int .i64 em, .int .i64 mm] 27) := ⟨_, rfl⟩
        have hbW : Bl wr W := by rw [hW]; exact bl_alloc (bl_refl _) _
        have q0 : W.cell? ⟨wr.heap.size, 0, none⟩ = some (.int .i64 op) := by rw [hW]; simp
        have q1 : W.cell? ⟨wr.heap.size, 1, none⟩ = some (.int .i64 em) := by rw [hW]; simp
        have q2 : W.cell? ⟨wr.heap.size, 2, none⟩ = some (.int .i64 mm) := by rw [hW]; simp
        have t1 := (hbW.cell (World.block_lt_of_cell? _ _ s1)).trans s1
        have t2 := (hbW.cell (World.block_lt_of_cell? _ _ s2)).trans s2
        have HOW := Lib.hid (own_bl HO'.out hbW)
        have HBW := Lib.hid (bl_trans HB.out hbW)
        have N0 : Hid (¬ u5.ownBlock = some wr.heap.size) := fun h => by have := (own_lt HO'.out _ h).2; omega
        have N1 : Hid (¬ u5.ownBlock = some b1) := fun h => by have := (own_lt HO'.out _ h).1; omega
        go_wp2
        rw [← hW]
        obtain ⟨bm, hbm⟩ : ∃ bm, bm = wr.heap.size := ⟨_, rfl⟩
        rw [← hbm] at q0 q1 q2 N0 ⊢
        have lbm := World.block_lt_of_cell? _ _ q0
        have lb1 := World.block_lt_of_cell? _ _ t1
        simp only at lbm lb1
        clear hbW hW hbm s1 s2 hbs hbw HB HO' r1 r2 r3
        go_region_held3 (fun w' => w'.cell? ⟨bm, 0, none⟩ = some (.int .i64 op) ∧ w'.cell? ⟨bm, 1, none⟩ = some (.int .i64 em) ∧ w'.cell? ⟨bm, 2, none⟩ = some (.int .i64 mm) ∧ w'.cell? ⟨b1, off1 + E, none⟩ = some (.int .i64 gE) ∧ w'.cell? ⟨b1, off1 + M, none⟩ = some (.int .i64 gM))
          (first
            | go_keep
            | exact ⟨chg_cell hchg3 X0 N0.out, chg_cell hchg3 X1 N0.out, chg_cell hchg3 X2 N0.out, chg_cell hchg3 Y1 N1.out, chg_cell hchg3 Y2 N1.out⟩)
          (first
            | (refine step_cat _ rfl (.tmp 20) (.tmp 38) _ rfl w.heap.size 27 i0 _ 3 24 Try.underlying22 hi hz0 hz1 hz2 rfl (by decide) u5 n0 (mcells C0) rfl ?_ (.slice (some ⟨W.heap.size, 0, none⟩) 1 1) 1 (mcells [(op, (gE : Int), (gM : Int))]) rfl ?_ (one_moves _) (by unfold maxLen; omega) (by omega) ?_ ?_
               · with_reducible exact own_bl HOW.out (bl_drew (bl_alloc (bl_refl W) _))
               · exact sl_move (World.cell?_alloc_new W _ _ 0) (World.cell?_alloc_new W _ _ 1) (World.cell?_alloc_new W _ _ 2)
               · exact Nat.le_trans HBW.out.size (by simp)
               intro v3 w3 hown3 hchg3 hloc3
               have X0 := (bl_drew (bl_alloc (bl_refl W) (.cells #[.int .i64 op, .int .i64 (gE : Int), .int .i64 (gM : Int)] 27))).cell (World.block_lt_of_cell? _ _ q0) |>.trans q0
               have X1 := (bl_drew (bl_alloc (bl_refl W) (.cells #[.int .i64 op, .int .i64 (gE : Int), .int .i64 (gM : Int)] 27))).cell (World.block_lt_of_cell? _ _ q1) |>.trans q1
               have X2 := (bl_drew (bl_alloc (bl_refl W) (.cells #[.int .i64 op, .int .i64 (gE : Int), .int .i64 (gM : Int)] 27))).cell (World.block_lt_of_cell? _ _ q2) |>.trans q2
               have Y1 := (bl_drew (bl_alloc (bl_refl W) (.cells #[.int .i64 op, .int .i64 (gE : Int), .int .i64 (gM : Int)] 27))).cell (World.block_lt_of_cell? _ _ t1) |>.trans t1
               have Y2 := (bl_drew (bl_alloc (bl_refl W) (.cells #[.int .i64 op, .int .i64 (gE : Int), .int .i64 (gM : Int)] 27))).cell (World.block_lt_of_cell? _ _ t2) |>.trans t2)
            | (go_at_call_of 8 em; with_reducible refine (HE.out _).mono ?_; rintro e w3 ⟨rfl, rfl⟩)
            | (go_at_call_of 8 mm; with_reducible refine (HM.out _).mono ?_; rintro e w3 ⟨rfl, rfl⟩))
        have HO3 : Hid (OwnM w3 w.heap.size v3 C1) := OwnM.cat hown3 (by rw [HT.out, if_neg (by omega), mcells_append, HRM.out]) (by rw [HT.out, if_neg (by omega), List.length_append, HNN.out]; rfl)
        have HB3 := Lib.hid (bl_own (bl_trans HBW.out (bl_drew (bl_alloc (bl_refl W) _))) (own_bl HOW.out (bl_drew (bl_alloc (bl_refl W) _))) hchg3)
        clear hown3 hchg3 hloc3 X0 X1 X2 Y1 Y2
        go_wp2
        go_roundw
        case rel => exact ⟨k + 1, by omega, by go_num, by rw [HC1.out]; exact HO3.out, HB3.out⟩
        case measure => simp [intOf]; omega
    · obtain rfl : k = ms.length := by omega
      rw [List.take_length] at HO
      go_wp2
      go_ret
      exact ⟨_, rfl, HO.out, HB.out⟩

end Go.Proofs.Ythgghafndabpfaa
