/- FnSpliceBoth and FnSpliceTwice return true: the walks of the laws. -/
import Derived.Test.YtgjackalcajmjaaSpliceList
import Derived.Test.YtgjackalcajmjaaSpliceRing
import Derived.Test.YtgjackalcajmjaaTurnLaws
import Derived.Test.YtgjackalcajmjaaOrder
namespace Go.Proofs.Ytgjackalcajmjaa
open Go.RowKit

theorem sp_sum (y : List Int) (t : Nat) (ht : t < y.length) : (spLeft y t).length + (spTaken y t).length = y.length := by
  rw [spLeft_len y t ht, spTaken_len y t ht]; omega
/-- What was taken, put back behind the first one. -/
theorem sp_back (y : List Int) (t : Nat) : (spLeft y t).take 1 ++ spTaken y t ++ (spLeft y t).drop 1 = y := by
  unfold spLeft spTaken
  cases y with
  | nil => simp
  | cons y0 ys =>
    rw [Nat.add_comm 1 t, List.drop_succ_cons]
    simp
/-- Taken in two times. -/
theorem sp_twice (y : List Int) (j k : Nat) (h : j + k < y.length) : spLeft (spLeft y j) k = spLeft y (j + k) ∧ spTaken y j ++ spTaken (spLeft y j) k = spTaken y (j + k) := by
  unfold spLeft spTaken
  cases y with
  | nil => simp at h
  | cons y0 ys =>
    rw [Nat.add_comm 1 j, Nat.add_comm 1 k, show 1 + (j + k) = (j + k) + 1 by omega, List.drop_succ_cons, List.drop_succ_cons]
    simp only [List.take_succ_cons, List.take_zero, List.cons_append, List.nil_append, List.drop_succ_cons, List.drop_zero]
    rw [List.drop_drop]
    refine ⟨rfl, ?_⟩
    have := List.take_append_drop j (ys.take (j + k))
    rw [List.take_take, Nat.min_eq_left (by omega), List.drop_take, Nat.add_sub_cancel_left] at this
    exact this

theorem own_one4 (w : World) (e : TypeId) (u : Value) : (w.alloc (.cells #[u] e)).ownsRow w.heap.size e 1 (.slice (some ⟨w.heap.size, 0, none⟩) 1 1) 1 [u] :=
  ⟨rfl, .inr ⟨w.heap.size, 1, #[u], rfl, Nat.le_refl _, heap_alloc_new w _, Nat.le_refl _, by unfold maxLen; omega, by simp, by simp⟩⟩

set_option maxHeartbeats 4000000 in
theorem spliceBoth_any (i k : Int) (u : Value) (xs : List Int) (w : World) (hu : Ints w u xs) (hl : xs.length * 8 ≤ 140737488351232) :
    Calls Try.prog 11 #[u, .int .i64 i, .int .i64 k] w fun e w' => e = .returned (.bool true) ∧ Bl w w' := by
  have HU := Lib.hid hu
  obtain ⟨A, c, rfl, hc, hm, _⟩ := hu.open
  unfold maxLen at hm
  clear hu
  go_enter Try.func11, Try.ntmps11
  go_wp2_with fail
  refine (SpliceList_impl _ xs i k _ HU.out (by omega)).mono ?_
  rintro e w1 ⟨v1, t1, rfl, o1, q1, s1, b1⟩
  have O1 := Lib.hid (OwnI.ints o1)
  have Q1 := Lib.hid (OwnI.ints q1)
  have B1 := Lib.hid b1
  obtain ⟨A1, c1, hv1, hc1, hm1, hx1⟩ := own_open o1
  obtain ⟨A2, c2, ht1, hc2, hm2, hx2⟩ := own_open q1
  clear hx1 hx2
  subst hv1 ht1
  unfold maxLen at hm1 hm2
  clear o1 q1 s1 b1
  go_wp2_with fail
  refine (SpliceRing_impl _ xs i k _ (HU.out.bl B1.out) (by omega)).mono ?_
  rintro e w2 ⟨v2, t2, rfl, o2, q2, s2, b2⟩
  have O2 := Lib.hid (OwnI.ints o2)
  have Q2 := Lib.hid (OwnI.ints q2)
  have B2 := Lib.hid b2
  clear o2 q2 s2 b2
  rcases Nat.eq_zero_or_pos xs.length with h0 | h0
  · obtain rfl : xs = [] := List.eq_nil_of_length_eq_zero h0
    rw [leftOf_nil] at O1 O2 hc1 ⊢
    rw [takenOf_nil] at Q1 Q2 hc2 ⊢
    simp only [List.length_nil] at *
    go_wp2_with fail
    refine (same_true _ _ _ _ (O1.out.bl B2.out) O2.out).mono ?_
    rintro e w3 ⟨rfl, b3⟩
    have B3 := Lib.hid (bl_trans B2.out b3)
    have C3 := Lib.hid b3
    clear b3
    go_wp2_with fail
    refine (same_true _ _ _ _ (Q1.out.bl B3.out) (Q2.out.bl C3.out)).mono ?_
    rintro e w4 ⟨rfl, b4⟩
    have B4 := Lib.hid (bl_trans B1.out (bl_trans B3.out b4))
    clear b4
    go_wp2_with fail
    refine (TurnRing_impl _ [] i _ (HU.out.bl B4.out) (by simp)).mono ?_
    rintro e w5 ⟨v5, rfl, o5, b5⟩
    rw [turnOf_nil] at o5
    obtain ⟨A5, c5, rfl, _, _, _⟩ := own_open o5
    have B5 := Lib.hid (bl_trans B4.out b5)
    clear o5 b5
    go_wp2
    go_ret
    exact ⟨rfl, B5.out⟩
  · have hK := ix_lt k h0
    have hyl := turnOf_len xs i
    have e1 : leftOf xs i k = spLeft (turnOf xs i) (ix k xs.length) := rfl
    have e2 : takenOf xs i k = spTaken (turnOf xs i) (ix k xs.length) := rfl
    rw [e1] at O1 O2 hc1 ⊢
    rw [e2] at Q1 Q2 hc2 ⊢
    clear e1 e2
    generalize ix k xs.length = K at *
    obtain ⟨y, hy⟩ : ∃ y, turnOf xs i = y := ⟨_, rfl⟩
    have HY := Lib.hid hy
    rw [hy] at O1 O2 Q1 Q2 hyl hc1 hc2 ⊢
    clear hy
    have l1 := spLeft_len y K (by omega)
    have l2 := spTaken_len y K (by omega)
    have HBK := Lib.hid (sp_back y K)
    have hn0 : ((xs.length : Int) == 0) = false := by rw [beq_eq_false_iff_ne]; omega
    obtain ⟨L, hL⟩ : ∃ L, spLeft y K = L := ⟨_, rfl⟩
    obtain ⟨T, hT⟩ : ∃ T, spTaken y K = T := ⟨_, rfl⟩
    rw [hL] at O1 O2 l1 hc1 HBK ⊢
    rw [hT] at Q1 Q2 l2 hc2 HBK ⊢
    rw [l1] at hc1 ⊢
    rw [l2] at hc2 ⊢
    rw [hyl] at l1 hc1 ⊢
    have HL1 := Lib.hid l1
    have HL2 := Lib.hid l2
    have HYL := Lib.hid hyl
    clear hL hT l1 l2 hyl
    have hsum : ((xs.length - K : Nat) : Int) + (K : Int) = (xs.length : Int) := by omega
    have hlp : (((xs.length - K : Nat) : Int) == 0) = false := by rw [beq_eq_false_iff_ne]; omega
    have O1' : Hid (Ints w1 (.slice A1 (xs.length - K) c1) L) := by rw [← HL1.out]; exact O1.out
    have Q1' : Hid (Ints w1 (.slice A2 K c2) T) := by rw [← HL2.out]; exact Q1.out
    have hLK : 0 < xs.length - K := by omega
    obtain ⟨LK, hLK'⟩ : ∃ LK, xs.length - K = LK := ⟨_, rfl⟩
    rw [hLK'] at O1' hsum hlp hLK hc1 HL1 ⊢
    go_wp2_with fail
    refine (same_true _ _ _ _ (O1'.out.bl B2.out) O2.out).mono ?_
    rintro e w3 ⟨rfl, b3⟩
    have B3 := Lib.hid (bl_trans B2.out b3)
    have C3 := Lib.hid b3
    clear b3
    go_wp2_with fail
    refine (same_true _ _ _ _ (Q1'.out.bl B3.out) (Q2.out.bl C3.out)).mono ?_
    rintro e w4 ⟨rfl, b4⟩
    have B4 := Lib.hid (bl_trans B3.out b4)
    clear b4
    obtain ⟨i0, hi, hz0, hz1, hz2⟩ := info_parts intInfo
    obtain ⟨A', c', e0, _, _, hvv⟩ := O1'.out.open
    rw [HL1.out] at e0
    injection e0 with e1 e2 e3
    subst e1 e3
    have hL0 : 0 < L.length := by rw [HL1.out]; exact hLK
    obtain ⟨b, off, rfl, r0⟩ := hvv 0 hL0
    simp only [Nat.add_zero] at r0
    have r4 := (B4.out.cell (World.block_lt_of_cell? _ _ r0)).trans r0
    have hlb : b < w4.heap.size := World.block_lt_of_cell? _ _ r4
    have HF : Hid ([L[0]] ++ T ++ L.drop 1 = y) := by
      show _ = _
      have h1 := HBK.out
      have h2 : L.take 1 = [L[0]] := by
        cases L with
        | nil => simp at hL0
        | cons a L => rfl
      rw [h2] at h1
      exact h1
    generalize L[0] = y0 at *
    clear hvv e2 r0 hL0
    have hone : (1 : Nat) ≤ LK := hLK
    have hone2 : (1 : Nat) ≤ c1 := by omega
    have hone3 : (1 : Int) ≤ (LK : Int) := by omega
    go_wp2
    go_region_law (first
      | (refine step_cat _ rfl (.tmp 59) (.tmp 60) _ rfl w4.heap.size 3 i0 _ 1 8 Try.underlying22 hi hz0 hz1 hz2 rfl (by decide) (.slice (some ⟨w4.heap.size, 0, none⟩) 1 1) 1 [.int .i64 y0] rfl (own_bl (own_one4 w4 _ _) (bl_drew (bl_refl _))) _ K (T.map (Value.int .i64)) rfl ?_ (one_ints _) (by unfold maxLen; omega) (by omega) (by simp) ?_
         · have := (Q1'.out.bl (bl_trans B4.out (bl_drew (bl_alloc (bl_refl w4) (.cells #[.int .i64 y0] 3)))))
           unfold Ints at this
           rw [HL2.out] at this
           exact this
         intro v5 w5 o5 c5 l5
         have b5 : Bl w4 w5 := bl_chg (bl_drew (bl_alloc (bl_refl w4) _)) c5 (fun i hi => by simp [Value.ownBlock] at hi; omega))
      | (refine step_cat _ rfl (.tmp 61) (.tmp 63) _ rfl w4.heap.size 3 i0 _ 1 8 Try.underlying22 hi hz0 hz1 hz2 rfl (by decide) v5 (1 + K) _ rfl o5 _ (LK - 1) ((L.drop 1).map (Value.int .i64)) rfl ((O1'.out.bl (bl_trans B4.out b5)).drop 1 hone) (one_ints _) (by unfold maxLen; omega) (by omega) b5.size ?_
         intro v6 w6 o6 c6 l6
         have b6 : Bl w4 w6 := bl_own b5 o5 c6
         have O6 : Hid (Ints w6 v6 y) := by
           have h1 : OwnI w6 w4.heap.size v6 y := own_ints o6 (by rw [← HF.out]; simp) (by rw [← HF.out]; simp only [List.length_append, List.length_cons, List.length_nil, List.length_drop, HL1.out, HL2.out])
           exact OwnI.ints h1)
      | (go_simp
         go_at_call 24
         refine (TurnRing_impl _ xs i _ (HU.out.bl (bl_trans B1.out (bl_trans B4.out b6))) (by omega)).mono ?_
         rintro e w7 ⟨v7, rfl, o7, b7⟩
         rw [HY.out] at o7
         have O7 := Lib.hid (OwnI.ints o7)
         have B7 := Lib.hid b7
         clear o7 b7)
      | (go_simp
         go_at_call 12
         refine (same_true v6 v7 _ _ (O6.out.bl B7.out) O7.out).mono ?_
         rintro e w8 ⟨rfl, b8⟩
         have B8 := Lib.hid (bl_trans B1.out (bl_trans B4.out (bl_trans b6 (bl_trans B7.out b8))))
         clear b8))
    all_goals
      clear o5 o6 c5 c6 l5 l6 b5 b6
      go_wp2
    all_goals
      go_ret
      exact ⟨rfl, B8.out⟩

end Go.Proofs.Ytgjackalcajmjaa
