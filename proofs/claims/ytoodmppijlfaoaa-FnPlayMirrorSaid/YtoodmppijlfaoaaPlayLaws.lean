/- FnPlayBoth, FnPlayOnce and FnPlayTurns return true: the walks of the laws. -/
import Derived.Test.YtoodmppijlfaoaaPlayList
import Derived.Test.YtoodmppijlfaoaaPlayRing
import Derived.Test.YtoodmppijlfaoaaPlayMore
import Derived.Test.YtoodmppijlfaoaaCircleMore
import Derived.Test.YtoodmppijlfaoaaTurnLaws
import Derived.Test.YtoodmppijlfaoaaOrder
namespace Go.Proofs.Ytoodmppijlfaoaa
open Go.RowKit

theorem playOf_count (a : Int) (ms : List Mv) : ∀ k : Nat, k < (playOf a ms).length → (playOf a ms).count (k : Int) = 1 := perm_count (play_ord (ix a 200) ms)

set_option maxHeartbeats 1000000 in
theorem playBoth_any (a : Int) (u : Value) (ms : List Mv) (w : World) (hu : Mvs w u ms) : Calls Try.prog 5 #[.int .i64 a, u] w fun e w' => e = .returned (.bool true) ∧ Bl w w' := by
  have HU := Lib.hid hu
  obtain ⟨A, c, rfl, hc, hm, _⟩ := hu.open
  unfold maxLen at hm
  clear hu
  have hN := ix_lt a (n := 200) (by omega)
  go_enter Try.func5, Try.ntmps5
  go_wp2_with fail
  refine (PlayList_impl a _ ms _ HU.out).mono ?_
  rintro e w1 ⟨v1, rfl, o1, b1⟩
  obtain ⟨A1, c1, rfl, hc1, hm1, _⟩ := own_open o1
  have O1 := Lib.hid (OwnI.ints o1)
  have B1 := Lib.hid b1
  unfold maxLen at hm1
  have hpl := playOf_len_eq a ms
  rw [hpl] at hc1 O1 ⊢
  clear o1 b1 hpl
  go_wp2_with fail
  refine (At_ix a 200 _ (by omega) (by omega)).mono ?_
  rintro e w2 ⟨rfl, rfl⟩
  generalize ix a 200 = N at *
  go_wp2_with fail
  refine (PlayRing_impl a _ ms _ (HU.out.bl B1.out)).mono ?_
  rintro e w3 ⟨v3, rfl, o3, b3⟩
  have O3 := Lib.hid (OwnX.ints o3)
  have B3 := Lib.hid b3
  clear o3 b3
  go_wp2_with fail
  refine (same_true _ v3 _ _ (O1.out.bl B3.out) O3.out).mono ?_
  rintro e w4 ⟨rfl, b4⟩
  have B4 := Lib.hid (bl_trans B1.out (bl_trans B3.out b4))
  clear b4
  go_wp2
  go_ret
  exact ⟨rfl, B4.out⟩

set_option maxHeartbeats 1000000 in
theorem playOnce_any (a : Int) (u : Value) (ms : List Mv) (w : World) (hu : Mvs w u ms) : Calls Try.prog 7 #[.int .i64 a, u] w fun e w' => e = .returned (.bool true) ∧ Bl w w' := by
  have HU := Lib.hid hu
  clear hu
  have HL := Lib.hid (playOf_len_eq a ms)
  have HC := Lib.hid (playOf_count a ms)
  go_enter Try.func7, Try.ntmps7
  go_wp2_with fail
  refine (PlayList_impl a u ms _ HU.out).mono ?_
  rintro e w1 ⟨v1, rfl, o1, b1⟩
  have O1 := Lib.hid (OwnI.ints o1)
  have B1 := Lib.hid b1
  clear o1 b1
  go_wp2_with fail
  refine (isOrder_true v1 _ a _ O1.out HL.out HC.out).mono ?_
  rintro e w2 ⟨rfl, rfl⟩
  go_wp2_with fail
  refine (PlayRing_impl a u ms _ (HU.out.bl B1.out)).mono ?_
  rintro e w3 ⟨v3, rfl, o3, b3⟩
  have O3 := Lib.hid (OwnX.ints o3)
  have B3 := Lib.hid (bl_trans B1.out b3)
  clear o3 b3
  go_wp2_with fail
  refine (isOrder_true v3 _ a _ O3.out HL.out HC.out).mono ?_
  rintro e w4 ⟨rfl, rfl⟩
  go_wp2
  go_ret
  exact ⟨rfl, B3.out⟩

theorem moveParts : (Try.prog.info? 27).map (fun i => (i.zero, i.size, i.bytes)) = some (some (.agg #[.int .i64 0, .int .i64 0, .int .i64 0]), 3, 24) := by kernel_rfl
theorem one_moves (ps : List Mv) : ∀ y ∈ mcells ps, y.oneCell' = true := by
  induction ps with
  | nil => intro y hy; cases hy
  | cons p ps ih =>
    intro y hy
    simp only [mcells, List.mem_cons] at hy
    rcases hy with rfl | rfl | rfl | hy
    · rfl
    · rfl
    · rfl
    · exact ih y hy
theorem sl_move {w : World} {g : Nat} {a b c : Int} (h0 : w.cell? ⟨g, 0, none⟩ = some (.int .i64 a)) (h1 : w.cell? ⟨g, 1, none⟩ = some (.int .i64 b)) (h2 : w.cell? ⟨g, 2, none⟩ = some (.int .i64 c)) : Sl w 3 (.slice (some ⟨g, 0, none⟩) 1 1) 1 (mcells [(a, b, c)]) := by
  refine ⟨rfl, _, _, rfl, Nat.le_refl _, by unfold maxLen; omega, fun _ => ⟨g, 0, rfl, fun j y hy => ?_⟩⟩
  match j with
  | 0 => simp [mcells] at hy; subst hy; exact h0
  | 1 => simp [mcells] at hy; subst hy; exact h1
  | 2 => simp [mcells] at hy; subst hy; exact h2
  | j + 3 => simp [mcells] at hy
theorem OwnM.mvs {w : World} {base : Nat} {v : Value} {ps : List Mv} (h : OwnM w base v ps) : Mvs w v ps := Sl.of_own h
theorem OwnM.cat {w : World} {base n : Nat} {v : Value} {cs : List Value} {ps : List Mv} (h : w.ownsRow base 27 3 v n cs) (hc : mcells ps = cs) (hn : ps.length = n) : OwnM w base v ps := by
  unfold OwnM; rw [hc, hn]; exact h

/-- The first numbers go to the back. -/
def turnMoves (k : Nat) : List Mv := (List.range k).map fun i : Nat => ((1 : Int), (i : Int), (0 : Int))
theorem turnMoves_succ (k : Nat) : turnMoves (k + 1) = turnMoves k ++ [((1 : Int), (k : Int), (0 : Int))] := by unfold turnMoves; rw [List.range_succ, List.map_append]; rfl
theorem turnMoves_len (k : Nat) : (turnMoves k).length = k := by simp [turnMoves]
theorem ix_self {k n : Nat} (h : k < n) : ix (k : Int) n = k := by unfold ix; rw [Int.emod_eq_of_lt (by omega) (by omega)]; omega
theorem fold_turn (N : Nat) : ∀ k, k ≤ N → (turnMoves k).foldl (playStep N) (nums N) = rot (nums N) k := by
  intro k
  induction k with
  | zero => intro _; simp [turnMoves, rot]
  | succ k ih =>
    intro hk
    rw [turnMoves_succ, List.foldl_append, ih (by omega)]
    show playStep N (rot (nums N) k) ((1 : Int), (k : Int), (0 : Int)) = _
    have hl : k < (nums N).length := by rw [nums_len]; omega
    have hg : (nums N)[k] = (k : Int) := nums_get (by omega)
    obtain ⟨e1, e2⟩ := rot_cons (nums N) k hl
    rw [e1, e2, hg, playStep_raw]
    rw [show ix (1 : Int) 4 = 1 by decide, ix_self (show k < N by omega)]
    exact raw_back (A := []) (by simp)
theorem play_turns (N k : Nat) (hN : N < 200) (hk : k ≤ N) : play N (turnMoves k) = turnOf (nums N) ((k : Int) + 5000) := by
  unfold play
  by_cases h0 : N = 0
  · subst h0
    rw [if_pos rfl]
    exact (turnOf_nil _).symm
  · rw [if_neg h0, fold_turn N k hk]
    unfold turnOf
    rw [farOf_near (by omega), nums_len]
    rcases (by omega : k < N ∨ k = N) with h | h
    · rw [ix_self h]
    · subst h
      have e : ix (k : Int) k = 0 := by unfold ix; rw [Int.emod_self]; rfl
      rw [e, rot_zero]
      unfold rot
      rw [List.drop_of_length_le (by rw [nums_len]; exact Nat.le_refl _), List.take_of_length_le (by rw [nums_len]; exact Nat.le_refl _), List.nil_append]

set_option maxHeartbeats 2000000 in
theorem playTurns_in (n k : Int) (w : World) : Calls Try.prog 4 #[.int .i64 n, .int .i64 k] w fun e w' => e = .returned (.bool true) ∧ Bl w w' := by
  have hN := ix_lt n (n := 200) (by omega)
  obtain ⟨i0, hi, hz0, hz1, hz2⟩ := info_parts moveParts
  go_enter Try.func4, Try.ntmps4
  go_wp2_with fail
  refine (First_any n _).mono ?_
  rintro e w1 ⟨v1, rfl, o1, b1⟩
  have o1' : OwnI w1 w.heap.size v1 (nums (ix n 200)) := o1
  have HPO : Hid (∀ ms, playOf n ms = play (ix n 200) ms) := fun ms => rfl
  generalize ix n 200 = N at *
  clear o1
  obtain ⟨A1, c1, rfl, hc1, hm1, _⟩ := own_open o1'
  have O1 := Lib.hid (OwnI.ints o1')
  have B1 := Lib.hid b1
  clear b1 o1'
  unfold maxLen at hm1
  rw [nums_len] at *
  go_wp2_with fail
  refine (At_ix k (N + 1) _ (by omega) (by omega)).mono ?_
  rintro e w2 ⟨rfl, rfl⟩
  have hk := ix_lt k (n := N + 1) (by omega)
  generalize ix k (N + 1) = K at *
  have HPT := Lib.hid (play_turns N K hN (by omega))
  go_wp2
  go_loopw [6, 7] (fun mv i wr => ∃ j : Nat, j ≤ K ∧ i = .int .i64 j ∧ OwnM wr w2.heap.size mv (turnMoves j) ∧ Bl w2 wr) (fun _ i _ => K - (intOf i).toNat)
  case atStart => exact ⟨0, Nat.zero_le _, rfl, own_empty _ _ _, bl_alloc (bl_refl _) _⟩
  case round =>
    obtain ⟨j, hj, rfl, hown, hbl⟩ := hrel
    have HO := Lib.hid hown
    have HB := Lib.hid hbl
    have HTL := Lib.hid (turnMoves_len j)
    have HTS := Lib.hid (turnMoves_succ j)
    clear hown hbl
    by_cases hlt : j < K
    · go_wp2_with (at_builtin; go_must (refine wpList_cat (wr.alloc (.cells #[.int .i64 1, .int .i64 j, .int .i64 0] 27)) rfl (.tmp 22) (.tmp 25) _ rfl w2.heap.size 27 i0 _ 3 24 Try.underlying22 hi hz0 hz1 hz2 rfl (by decide) u6 (turnMoves j).length _ rfl (HO.out.alloc _) _ 1 (mcells [((1 : Int), (j : Int), (0 : Int))]) rfl (sl_move (World.cell?_alloc_new wr _ _ 0) (World.cell?_alloc_new wr _ _ 1) (World.cell?_alloc_new wr _ _ 2)) (one_moves _) (by rw [HTL.out]; unfold maxLen; omega) (by rw [HTL.out]; omega) (Nat.le_trans HB.out.size (by simp)) ?_); intro v3 w3 hown3 hchg3 hloc3)
      have HO3 : Hid (OwnM w3 w2.heap.size v3 (turnMoves (j + 1))) := OwnM.cat hown3 (by rw [HTS.out, mcells_append]) (by rw [HTS.out, List.length_append]; rfl)
      have HB3 := Lib.hid (bl_own (bl_alloc HB.out _) (HO.out.alloc _) hchg3)
      clear hown3 hchg3 hloc3
      go_roundw
      case rel => exact ⟨j + 1, by omega, by go_num, HO3.out, HB3.out⟩
      case measure => simp [intOf]; omega
    · obtain rfl : j = K := by omega
      have HBW := Lib.hid (bl_trans B1.out HB.out)
      have HX := Lib.hid (O1.out.bl HB.out)
      have HM := Lib.hid (OwnM.mvs HO.out)
      clear HO HTL HTS
      go_wp2_with fail
      refine (Near_any _ _ (by omega)).mono ?_
      rintro e w3 ⟨rfl, rfl⟩
      go_wp2_with fail
      refine (TurnRing_impl _ _ _ _ HX.out (by rw [nums_len]; omega)).mono ?_
      rintro e w4 ⟨v4, rfl, o4, b4⟩
      have HTL := Lib.hid (turnOf_len (nums N) ((j : Int) + 5000))
      obtain ⟨A4, c4, rfl, hc4, hm4, _⟩ := own_open o4
      have O4 := Lib.hid (OwnI.ints o4)
      have B4 := Lib.hid b4
      unfold maxLen at hm4
      rw [HTL.out, nums_len] at O4 hc4 ⊢
      clear o4 b4
      go_wp2_with fail
      refine (PlayList_impl n _ _ _ (HM.out.bl B4.out)).mono ?_
      rintro e w5 ⟨v5, rfl, o5, b5⟩
      rw [HPO.out, HPT.out] at o5
      have O5 := Lib.hid (OwnI.ints o5)
      have B5 := Lib.hid b5
      clear o5 b5
      go_wp2_with fail
      refine (same_true _ _ _ _ O5.out (O4.out.bl B5.out)).mono ?_
      rintro e w6 ⟨rfl, b6⟩
      have B6 := Lib.hid (bl_trans B5.out b6)
      clear b6
      go_wp2_with fail
      refine (PlayRing_impl n _ _ _ (HM.out.bl (bl_trans B4.out B6.out))).mono ?_
      rintro e w7 ⟨v7, rfl, o7, b7⟩
      rw [HPO.out, HPT.out] at o7
      have O7 := Lib.hid (OwnX.ints o7)
      have B7 := Lib.hid (bl_trans B6.out b7)
      clear o7 b7
      go_wp2_with fail
      refine (same_true _ _ _ _ O7.out (O4.out.bl B7.out)).mono ?_
      rintro e w8 ⟨rfl, b8⟩
      have B8 := Lib.hid (bl_trans HBW.out (bl_trans B4.out (bl_trans B7.out b8)))
      clear b8
      go_wp2
      go_ret
      exact ⟨rfl, B8.out⟩

end Go.Proofs.Ytoodmppijlfaoaa
