/- The walk of CircleRing. -/
import Derived.Test.YtoodmppijlfaoaaCircle
import Derived.Test.YtoodmppijlfaoaaRingCut
import Derived.Test.YtoodmppijlfaoaaRingJoin
namespace Go.Proofs.Ytoodmppijlfaoaa
open Go.RowKit


theorem nums_range (n : Nat) : (List.range n).map (fun j : Nat => (j : Int)) = nums n := by
  induction n with
  | zero => rfl
  | succ n ih => rw [List.range_succ, List.map_append, ih, nums_succ]; rfl

set_option maxHeartbeats 400000 in
theorem len_nil (w : World) : Calls Try.prog 56 #[.pointer none] w fun e w' => e = .returned (.int .i64 0) ∧ w = w' := by
  go_enter Try.func56, Try.ntmps56
  go_wp2
  go_ret
  exact ⟨rfl, rfl⟩

set_option maxHeartbeats 2000000 in
theorem CircleRing_none (n k : Int) (w : World) (h : ix n 200 = 0) : Calls Try.prog 31 #[.int .i64 n, .int .i64 k] w (NewInts w (circleOf n k)) := by
  have HC : Hid (circleOf n k = []) := by show circleOf n k = []; unfold circleOf; rw [h]; rfl
  go_enter Try.func31, Try.ntmps31
  go_wp2_with fail
  refine (at_ix n 200 _ (by omega) (by omega)).mono ?_
  rintro e w2 ⟨rfl, rfl⟩
  rw [h]
  go_wp2_with fail
  refine (new_none 0 (by omega) _).mono ?_
  rintro e w2 ⟨rfl, rfl⟩
  go_wp2_with fail
  refine (len_nil _).mono ?_
  rintro e w2 ⟨rfl, rfl⟩
  go_wp2
  refine wp_loop_rounds 1 ?_
  rw [rounds_succ]
  go_wp2
  refine wp_loop_rounds 1 ?_
  rw [rounds_succ]
  go_wp2_with fail
  refine (len_nil _).mono ?_
  rintro e w2 ⟨rfl, rfl⟩
  go_wp2
  go_ret
  exact ⟨_, rfl, by rw [HC.out]; exact own_empty _ _ _, bl_alloc (bl_refl _) _⟩

set_option maxHeartbeats 2000000 in
theorem CircleRing_some (n k : Int) (w : World) (h : 0 < ix n 200) : Calls Try.prog 31 #[.int .i64 n, .int .i64 k] w (NewInts w (circleOf n k)) := by
  obtain ⟨i0, hi, hz0, hz1, hz2⟩ := info_parts intInfo
  have hn := ix_lt n (n := 200) (by omega)
  have hfb := farOf_bd k
  have HC : Hid (circleOf n k = circle (farOf k) (nums (ix n 200))) := rfl
  go_enter Try.func31, Try.ntmps31
  go_wp2_with fail
  refine (at_ix n 200 _ (by omega) (by omega)).mono ?_
  rintro e w2 ⟨rfl, rfl⟩
  generalize ix n 200 = N at *
  go_wp2_with fail
  refine (new_some N h (by omega) _).mono ?_
  rintro e w1 ⟨rfl, h1⟩
  have H1 := Lib.hid h1
  clear h1
  go_wp2_with fail
  have HL := Lib.hid (len_ring H1.out.ring (r := 0) h ((rot (List.range N) 0).tail) (path_rot N 0 h).1 (rot_nodup N 0 h) (fun x hx => (rot_mem N 0 x).1 (List.mem_of_mem_tail hx)) (by rw [List.length_tail, rot_len, List.length_range]; omega))
  have hlen : (rot (List.range N) 0).tail.length + 1 = N := by rw [List.length_tail, rot_len, List.length_range]; omega
  refine HL.out.mono ?_
  rintro e w3 ⟨rfl, k3⟩
  rw [show (((rot (List.range N) 0).tail.length : Nat) : Int) + 1 = (N : Int) by omega]
  have K3 := Lib.hid k3
  have HGE : Hid (∀ i, At (· < N) (w2.heap.size + ·) i → w2.heap.size ≤ i) := by rintro i ⟨j, _, e⟩; subst e; exact Nat.le_add_right _ _
  clear k3 HL hlen
  go_wp2
  go_loopw [5, 6] (fun r i wr => ∃ t : Nat, t ≤ N ∧ i = .int .i64 ((N - t : Nat) : Int) ∧ r = P (w2.heap.size + if t = 0 then 0 else N - t) ∧ Ring wr (· < N) (w2.heap.size + ·) (nxc N) (pvc N) (fun j => if j < N - t then .nilIface else I (j : Int)) ∧ Bl w2 wr) (fun _ i _ => (intOf i).toNat)
  case atStart =>
    refine ⟨0, Nat.zero_le _, rfl, rfl, ?_, bl_chg H1.out.bl K3.out.chg HGE.out⟩
    have h1 := K3.out.ring
    refine ⟨fun j hj => ?_, h1.inj, h1.nxD, h1.pvD, h1.pn, h1.np⟩
    rw [if_pos (by omega)]; exact h1.node j hj
  case round =>
    obtain ⟨t, ht, rfl, rfl, hring, hbl⟩ := hrel
    have HRI := Lib.hid hring
    have HB := Lib.hid hbl
    clear hring hbl
    by_cases hlt : t < N
    · have hpos : (0 : Int) < ((N - t : Nat) : Int) := by omega
      have hidx : (if t = 0 then 0 else N - t) < N := by split <;> omega
      have hpv : pvc N (if t = 0 then 0 else N - t) = N - (t + 1) := by
        unfold pvc; split <;> split <;> omega
      generalize (if t = 0 then 0 else N - t) = q at *
      go_wp2_with fail
      refine (prev_ring HRI.out hidx).mono ?_
      rintro e w4 ⟨rfl, k4, _⟩
      rw [hpv]
      have hd4 : N - (t + 1) < N := by omega
      have c2 : ∃ x, w4.cell? ⟨w2.heap.size + (N - (t + 1)), 2, none⟩ = some x := by
        obtain ⟨a, c', e, _⟩ := k4.ring.node _ hd4
        rw [cell_of_heap e]; exact ⟨_, rfl⟩
      obtain ⟨x, c2⟩ := c2
      have f2 : w4.frozen? ⟨w2.heap.size + (N - (t + 1)), 2, none⟩ = false := by
        obtain ⟨a, c', e, _⟩ := k4.ring.node _ hd4
        exact frozen_of_heap e
      have R5 := Lib.hid (k4.ring.setVal hd4 (I (((N - t : Nat) : Int) - 1))).1
      have B5 := Lib.hid (bl_set (bl_chg HB.out k4.chg HGE.out) (p := ⟨w2.heap.size + (N - (t + 1)), 2, none⟩) (Nat.le_add_right _ _) (I (((N - t : Nat) : Int) - 1)))
      clear k4
      go_wp2
      go_roundw
      case rel =>
        refine ⟨t + 1, by omega, ?_, ?_, ?_, B5.out⟩
        · rw [show ((N - (t + 1) : Nat) : Int) = ((N - t : Nat) : Int) - 1 by omega]
        · rw [if_neg (by omega)]
        · have h1 := R5.out
          refine ⟨fun j hj => ?_, h1.inj, h1.nxD, h1.pvD, h1.pn, h1.np⟩
          have h2 := h1.node j hj
          have e : (if j = N - (t + 1) then I (((N - t : Nat) : Int) - 1) else if j < N - t then Value.nilIface else I (j : Int)) = if j < N - (t + 1) then .nilIface else I (j : Int) := by
            by_cases h3 : j = N - (t + 1)
            · rw [if_pos h3, if_neg (by omega), show ((N - t : Nat) : Int) - 1 = (j : Int) by omega]
            · rw [if_neg h3]
              by_cases h4 : j < N - t
              · rw [if_pos h4, if_pos (by omega)]
              · rw [if_neg h4, if_neg (by omega)]
          simp only [e] at h2
          exact h2
      case measure => simp [intOf]; omega
    · obtain rfl : t = N := by omega
      rw [Nat.sub_self] at *
      have hq : (if t = 0 then 0 else 0) = 0 := by split <;> rfl
      rw [hq, Nat.add_zero]
      clear hq
      -- from now on by blocks
      have hring2 : Ring wr (fun b => w2.heap.size ≤ b ∧ b < w2.heap.size + t) id (fun b => w2.heap.size + nxc t (b - w2.heap.size)) (fun b => w2.heap.size + pvc t (b - w2.heap.size)) (fun b => I (((b - w2.heap.size : Nat)) : Int)) := by
        have h1 := HRI.out.toId
        refine h1.conv (fun _ => Iff.rfl) (fun _ _ => rfl) (fun _ _ => rfl) (fun i _ => ?_)
        simp
      have hp2 : Path (fun b => w2.heap.size + nxc t (b - w2.heap.size)) w2.heap.size ((List.range t).map (w2.heap.size + ·)) w2.heap.size := by
        have := (path_nxc t h).shift (B := w2.heap.size)
        rw [Nat.add_zero] at this
        exact this
      have hnd2 : ((List.range t).map (w2.heap.size + ·)).Nodup := List.pairwise_map.2 (List.nodup_range.imp (fun h e => h (by omega)))
      have hiv : ((List.range t).map (w2.heap.size + ·)).map (fun b => (((b - w2.heap.size : Nat)) : Int)) = nums t := by
        rw [← nums_range, List.map_map]
        apply List.map_congr_left
        intro j _
        show ((w2.heap.size + j - w2.heap.size : Nat) : Int) = (j : Int)
        omega
      have hD2 : ∀ x ∈ (List.range t).map (w2.heap.size + ·), w2.heap.size ≤ x ∧ x < w2.heap.size + t := by
        intro x hx
        obtain ⟨j, hj, rfl⟩ := List.mem_map.1 hx
        have := List.mem_range.1 hj
        omega
      have R2 := Lib.hid hring2
      have P2 := Lib.hid hp2
      have N2 := Lib.hid hnd2
      have IV := Lib.hid hiv
      have D2 := Lib.hid hD2
      clear hring2 hp2 hnd2 hiv hD2 HRI
      generalize hB : w2.heap.size = B at *
      have HBB := Lib.hid hB
      clear hB
      go_wp2
      go_loopg [5, 7] t (fun g r ov ws => ∃ (y : Nat) (L : List Nat) (ys : List Int) (nx pv : Nat → Nat), (y :: L).length = g ∧ r = P y ∧ ys.length + (y :: L).length < 200 ∧ Ring ws (fun b => B ≤ b ∧ b < B + t) id nx pv (fun b => I ((b - B : Nat) : Int)) ∧ Path nx y (y :: L) y ∧ (y :: L).Nodup ∧ (∀ x ∈ y :: L, B ≤ x ∧ x < B + t) ∧ OwnI ws w2.heap.size ov ys ∧ circleOf n k = ys ++ circle (farOf k) ((y :: L).map (fun b => ((b - B : Nat) : Int))) ∧ Bl w2 ws)
      case atStart =>
        have e : (List.range t).map (B + ·) = B :: ((List.range t).map (B + ·)).tail := by
          obtain ⟨m, rfl⟩ : ∃ m, t = m + 1 := ⟨t - 1, by omega⟩
          rw [List.range_succ_eq_map]; rfl
        have p := P2.out
        have nd := N2.out
        have iv := IV.out
        have dd := D2.out
        have ln : ((List.range t).map (B + ·)).length = t := by simp
        rw [e] at p nd iv dd ln
        refine ⟨B, _, [], _, _, ln, rfl, by rw [ln]; simpa using hn, R2.out.bl (bl_alloc (bl_refl _) _), p, nd, dd, own_base (own_empty _ _ _) HB.out.size, by rw [iv]; exact HC.out, bl_alloc HB.out _⟩
      case round =>
        clear R2 P2 N2 IV D2
        obtain ⟨y, L, ys, nx, pv, hg, rfl, hsz, hring, hpath, hnd, hD, oy, hci, hbl⟩ := hrel
        have HG := Lib.hid hg
        have HRI := Lib.hid hring
        have HP := Lib.hid hpath
        have HND := Lib.hid hnd
        have HD := Lib.hid hD
        have OY := Lib.hid oy
        have HCI := Lib.hid hci
        have HBL := Lib.hid hbl
        have HAT : Hid (∀ i, At (fun b => B ≤ b ∧ b < B + t) id i → w2.heap.size ≤ i) := fun i hi => by
          have := ((At_id i).1 hi).1
          have := HBB.out
          omega
        clear hg hring hpath hnd hD oy hci hbl
        rw [List.length_cons] at hsz
        have hlpos : (0 : Int) < (L.length : Int) + 1 := by omega
        go_wp2_with fail
        refine (len_ring HRI.out (r := y) (HD.out y (by simp)) L HP.out (List.nodup_cons.1 HND.out).1 (fun x hx => HD.out x (by simp [hx])) (by omega)).mono ?_
        rintro e w4 ⟨rfl, k4⟩
        have K4 := Lib.hid k4
        clear k4
        go_wp2_with fail
        refine (far_any k _).mono ?_
        rintro e w5 ⟨rfl, rfl⟩
        go_wp2_with fail
        refine (move_path K4.out.ring HP.out HD.out (by simp) (HD.out y (by simp)) (farOf k) (by omega)).mono ?_
        rintro e w6 ⟨rfl, k6⟩
        have hk6 := ix_lt (farOf k) (n := (y :: L).length) (by simp)
        have hp6 := HP.out.rot hk6
        have hnd6 := nodup_rot HND.out (ix (farOf k) (y :: L).length)
        have hD6 : ∀ x ∈ rot (y :: L) (ix (farOf k) (y :: L).length), B ≤ x ∧ x < B + t := fun x hx => HD.out x ((mem_rot _ _ _).1 hx)
        have hci6 : ∀ y2 zs, rot (y :: L) (ix (farOf k) (y :: L).length) = y2 :: zs → circle (farOf k) ((y :: L).map (fun b => ((b - B : Nat) : Int))) = ((y2 - B : Nat) : Int) :: circle (farOf k) (zs.map (fun b => ((b - B : Nat) : Int))) ∧ L.length = zs.length := fun y2 zs hz => by
          have h1 : rot ((y :: L).map (fun b => ((b - B : Nat) : Int))) (ix (farOf k) ((y :: L).map (fun b => ((b - B : Nat) : Int))).length) = ((y2 - B : Nat) : Int) :: zs.map (fun b => ((b - B : Nat) : Int)) := by
            rw [List.length_map, ← rot_map, hz]; rfl
          obtain ⟨h2, h3⟩ := circle_cons h1
          exact ⟨h2, by simpa using h3⟩
        have hrh := rot_head (y :: L) hk6
        rw [hrh] at hp6 hnd6 hD6
        have hci7 := hci6 _ _ hrh
        generalize (y :: L)[ix (farOf k) (y :: L).length] = y2 at *
        generalize (y :: L).drop (ix (farOf k) (y :: L).length + 1) ++ (y :: L).take (ix (farOf k) (y :: L).length) = zs at *
        have K6 := Lib.hid (K4.out.after k6)
        have HP6 := Lib.hid hp6
        have HND6 := Lib.hid hnd6
        have HD6 := Lib.hid hD6
        have HC6 := Lib.hid hci7.1
        have HL6 := Lib.hid hci7.2
        have O6 := Lib.hid (K6.out.own HRI.out OY.out (by decide))
        have B6 := Lib.hid (bl_chg HBL.out K6.out.chg HAT.out)
        have c2 := K6.out.ring.cell2_id (HD6.out y2 (by simp))
        have hta := run_assert_int ((y2 - B : Nat) : Int)
        clear k6 hp6 hnd6 hD6 hci6 hci7 hrh hk6
        generalize hyv : ((y2 - B : Nat) : Int) = yv at *
        have HYV := Lib.hid hyv
        clear hyv
        go_wp2_with (at_builtin; go_must (refine wpList_push w6 rfl (.tmp 33) (.tmp 39) _ rfl w2.heap.size 3 i0 _ 8 Try.underlying23 hi hz0 hz1 hz2 rfl u7 _ _ rfl O6.out (.int .i64 yv) rfl rfl rfl (by omega) (by omega) B6.out.size ?_); intro v7 w7 hown7 hchg7 hloc7)
        have O7 := Lib.hid (OwnI.snoc hown7)
        have R7 := Lib.hid (K6.out.ring.chg hchg7 (K6.out.ring.ne_own O6.out (by decide)))
        have B7 := Lib.hid (bl_own B6.out O6.out hchg7)
        clear hown7 hchg7 hloc7
        have HL8 := Lib.hid (len_ring R7.out (r := y2) (HD6.out y2 (by simp)) zs HP6.out (List.nodup_cons.1 HND6.out).1 (fun x hx => HD6.out x (by simp [hx])) (by have := HL6.out; omega))
        rcases zs with _ | ⟨z, zs⟩
        · have HE : Hid (circleOf n k = ys ++ [yv]) := by
            show circleOf n k = ys ++ [yv]
            rw [HCI.out, HC6.out]
            rfl
          go_wp2_with fail
          refine HL8.out.mono ?_
          rintro e w8 ⟨rfl, k8⟩
          have O8 := Lib.hid (k8.own R7.out O7.out (by decide))
          have B8 := Lib.hid (bl_chg B7.out k8.chg HAT.out)
          clear k8 HL8
          simp only [List.length_nil]
          go_wp2
          go_ret
          exact ⟨_, rfl, by rw [HE.out]; exact O8.out, B8.out⟩
        · have hne1 : ((((z :: zs).length : Nat) : Int) + 1 == 1) = false := by rw [beq_eq_false_iff_ne, List.length_cons]; omega
          go_wp2_with fail
          refine HL8.out.mono ?_
          rintro e w8 ⟨rfl, k8⟩
          have K8 := Lib.hid k8
          have O8 := Lib.hid (k8.own R7.out O7.out (by decide))
          have B8 := Lib.hid (bl_chg B7.out k8.chg HAT.out)
          clear k8 HL8
          obtain ⟨q1, q2, q3, q4, _⟩ := Path.cutHead K8.out.ring HP6.out HND6.out HD6.out
          have Q1 := Lib.hid q1
          have Q2 := Lib.hid q2
          have Q3 := Lib.hid q3
          have Q4 := Lib.hid q4
          clear q1 q2 q3 q4
          generalize hlz : (((z :: zs).length : Nat) : Int) + 1 = lz at *
          have HLZ := Lib.hid hlz
          clear hlz
          go_wp2_with fail
          refine (prev_id K8.out.ring (HD6.out y2 (by simp))).mono ?_
          rintro e w9 ⟨rfl, k9, _⟩
          have K9 := Lib.hid (K8.out.after k9)
          clear k9
          have hdp := HD6.out _ (List.mem_cons_of_mem _ Q4.out)
          have HU := Lib.hid (unlink_ring K9.out.ring hdp 1 (by omega) (by omega))
          go_wp2_with fail
          refine HU.out.mono ?_
          rintro e w10 ⟨rfl, k10, _⟩
          have e2 : iter nx (1 + 1) (pv y2) = z := Q1.out
          rw [e2] at k10
          have K10 := Lib.hid (K9.out.after k10)
          clear k10 e2 HU
          go_wp2_with fail
          refine (next_id K10.out.ring hdp).mono ?_
          rintro e w11 ⟨rfl, k11, _⟩
          rw [Q3.out]
          have K11 := Lib.hid (K10.out.after k11)
          have O11 := Lib.hid (K11.out.own R7.out O7.out (by decide))
          have B11 := Lib.hid (bl_chg B7.out K11.out.chg HAT.out)
          clear k11
          go_wp2
          go_roundg (z :: zs).length
          case rel =>
            refine ⟨z, zs, ys ++ [yv], _, _, rfl, rfl, ?_, K11.out.ring, Q2.out, (List.nodup_cons.1 HND6.out).2, fun x hx => HD6.out x (List.mem_cons_of_mem _ hx), O11.out, by rw [HCI.out, HC6.out, List.append_assoc]; rfl, B11.out⟩
            have := HL6.out
            rw [List.length_append]; simp at *; omega
          case measure => have := HL6.out; have := HG.out; simp at *; omega
theorem CircleRing_impl (n k : Int) (w : World) : Calls Try.prog 31 #[.int .i64 n, .int .i64 k] w (NewInts w (circleOf n k)) := by
  rcases Nat.eq_zero_or_pos (ix n 200) with h | h
  · exact CircleRing_none n k w h
  · exact CircleRing_some n k w h

end Go.Proofs.Ytoodmppijlfaoaa
