/- FnSpliceTwice returns true: the walk of the law. -/
import Derived.Test.YtgjackalcajmjaaSpliceLaws
namespace Go.Proofs.Ytgjackalcajmjaa
open Go.RowKit

theorem ints_val' {w : World} {v : Value} {xs : List Int} (h : Ints w v xs) : ∃ A c, v = Value.slice A xs.length c := by
  obtain ⟨A, c, h, _⟩ := h.open; exact ⟨A, c, h⟩
/-- append onto a row of one's own, as a step that is asked for. -/
theorem wpList_catg {P : Program} (w : World) {ops : Array Oper} {rest : List Oper} {o : Oper} {a : Act} {Q : Exit → Act → World → Prop} (hgd : Region.wanted o (yielded ops a.tmps) = true) (s x : Operand) (t : TypeId)
    (ho : o.op = .call { callee := .builtin .append, args := #[s, x], argTypes := #[t, t] })
    (base : Nat) (e : TypeId) (i : TypeInfo) (z : Value) (size bytes : Nat) (ht : P.underlying t = some (.slice e)) (hi : P.info? e = some i) (hz : i.zero = some z)
    (hsize : i.size = size) (hby : i.bytes = bytes) (hzs : z.cells.size = size) (hsz : 0 < size)
    (v : Value) (n : Nat) (xs : List Value) (hs : a.eval s = v) (hown : w.ownsRow base e size v n xs) (u : Value) (m : Nat) (cs : List Value) (hx : a.eval x = u) (hu : Sl w size u m cs) (h1 : ∀ y ∈ cs, y.oneCell' = true)
    (h63 : n + m ≤ maxLen) (hbytes : (n + m) * bytes ≤ 140737488355328) (hbase : base ≤ w.heap.size)
    (h : ∀ v' w', w'.ownsRow base e size v' (n + m) (xs ++ cs) → Chg (fun k => v.ownBlock = some k) w w' → (∀ g, v'.ownBlock = some g → v.ownBlock = some g ∨ w.heap.size ≤ g) → wpList P ops Q rest (a.put o.dst v') w') : wpList P ops Q (o :: rest) a w :=
  wpList_step fun _ hK => by
    rw [if_pos hgd]
    exact wp_cat w s x t ho base e i z size bytes ht hi hz hsize hby hzs hsz v n xs hs hown u m cs hx hu h1 h63 hbytes hbase fun v' w' h2 h3 h4 => hK _ _ (h v' w' h2 h3 h4)

set_option maxHeartbeats 4000000 in
theorem spliceTwice_any (j k : Int) (u : Value) (xs : List Int) (w : World) (hu : Ints w u xs) (hl : xs.length * 8 ≤ 140737488351232) :
    Calls Try.prog 10 #[u, .int .i64 j, .int .i64 k] w fun e w' => e = .returned (.bool true) ∧ Bl w w' := by
  have HU := Lib.hid hu
  obtain ⟨A, c, rfl, hc, hm, _⟩ := hu.open
  unfold maxLen at hm
  clear hu
  rcases Nat.eq_zero_or_pos xs.length with h0 | h0
  · obtain rfl : xs = [] := List.eq_nil_of_length_eq_zero h0
    simp only [List.length_nil] at *
    go_enter Try.func10, Try.ntmps10
    go_wp2_with fail
    refine (Near_any 0 _ (by omega)).mono ?_
    rintro e w1 ⟨rfl, rfl⟩
    go_wp2_with fail
    refine (SpliceRing_impl _ [] _ _ _ HU.out (by simp)).mono ?_
    rintro e w2 ⟨v2, t2, rfl, o2, q2, s2, b2⟩
    rw [leftOf_nil] at o2
    rw [takenOf_nil] at q2
    obtain ⟨A2, c2, rfl, _, _, _⟩ := own_open o2
    obtain ⟨A3, c3, rfl, _, _, _⟩ := own_open q2
    have B2 := Lib.hid b2
    clear o2 q2 s2 b2
    go_wp2
    go_ret
    exact ⟨rfl, B2.out⟩
  · have hn0 : ((xs.length : Int) == 0) = false := by rw [beq_eq_false_iff_ne]; omega
    have hJ := ix_lt j h0
    go_enter Try.func10, Try.ntmps10
    go_wp2_with fail
    refine (At_ix j xs.length _ h0 (by omega)).mono ?_
    rintro e w1 ⟨rfl, rfl⟩
    generalize ix j xs.length = J at *
    have hd : ((xs.length : Int) - (J : Int)) = ((xs.length - J : Nat) : Int) := by omega
    have hdp : 0 < xs.length - J := by omega
    have hK := ix_lt k hdp
    go_wp2_with fail
    refine (At_ix k (xs.length - J) _ hdp (by omega)).mono ?_
    rintro e w1 ⟨rfl, rfl⟩
    generalize ix k (xs.length - J) = K at *
    go_wp2_with fail
    refine (Near_any 0 _ (by omega)).mono ?_
    rintro e w1 ⟨rfl, rfl⟩
    have hI0 : ∀ ys : List Int, turnOf ys 5000 = ys := fun ys => by
      unfold turnOf
      rw [show farOf 5000 = 0 by decide, ix_zero, rot_zero]
    have hJJ : ∀ n : Nat, J < n → ix (J : Int) n = J := fun n h => by unfold ix; rw [Int.emod_eq_of_lt (by omega) (by omega)]; omega
    have hKK : ∀ n : Nat, K < n → ix (K : Int) n = K := fun n h => by unfold ix; rw [Int.emod_eq_of_lt (by omega) (by omega)]; omega
    have HLJ : Hid (leftOf xs 5000 (J : Int) = spLeft xs J) := by
      show _ = _
      unfold leftOf; rw [hI0, hJJ _ hJ]
    have HTJ : Hid (takenOf xs 5000 (J : Int) = spTaken xs J) := by
      show _ = _
      unfold takenOf; rw [hI0, hJJ _ hJ]
    have hsl := spLeft_len xs J hJ
    have HLK : Hid (leftOf (spLeft xs J) 5000 (K : Int) = spLeft (spLeft xs J) K) := by
      show _ = _
      unfold leftOf; rw [hI0, hKK _ (by rw [hsl]; exact hK)]
    have HTK : Hid (takenOf (spLeft xs J) 5000 (K : Int) = spTaken (spLeft xs J) K) := by
      show _ = _
      unfold takenOf; rw [hI0, hKK _ (by rw [hsl]; exact hK)]
    have hJK : J + K < xs.length := by omega
    have HLB : Hid (leftOf xs 5000 ((J : Int) + (K : Int)) = spLeft xs (J + K)) := by
      show _ = _
      unfold leftOf; rw [hI0]
      congr 1
      unfold ix; rw [Int.emod_eq_of_lt (by omega) (by omega)]; omega
    have HTB : Hid (takenOf xs 5000 ((J : Int) + (K : Int)) = spTaken xs (J + K)) := by
      show _ = _
      unfold takenOf; rw [hI0]
      congr 1
      unfold ix; rw [Int.emod_eq_of_lt (by omega) (by omega)]; omega
    obtain ⟨tw1, tw2⟩ := sp_twice xs J K hJK
    have TW1 := Lib.hid tw1
    have TW2 := Lib.hid tw2
    have HSL := Lib.hid hsl
    clear hI0 hJJ hKK tw1 tw2 hsl hd
    go_wp2_with fail
    refine (SpliceRing_impl _ xs _ _ _ HU.out (by omega)).mono ?_
    rintro e w2 ⟨v2, t2, rfl, o2, q2, s2, b2⟩
    rw [HLJ.out] at o2
    rw [HTJ.out] at q2
    have O2 := Lib.hid (OwnI.ints o2)
    have Q2 := Lib.hid q2
    have B2 := Lib.hid b2
    clear o2 q2 s2 b2
    go_wp2_with fail
    refine (Near_any 0 _ (by omega)).mono ?_
    rintro e w3 ⟨rfl, rfl⟩
    go_wp2_with fail
    refine (SpliceList_impl v2 _ _ _ _ O2.out (by rw [HSL.out]; omega)).mono ?_
    rintro e w3 ⟨v3, t3, rfl, o3, q3, s3, b3⟩
    rw [HLK.out, TW1.out] at o3
    rw [HTK.out] at q3
    have O3 := Lib.hid (OwnI.ints o3)
    have Q3 := Lib.hid (OwnI.ints q3)
    have B3 := Lib.hid b3
    clear o3 q3 s3 b3
    go_wp2_with fail
    refine (Near_any 0 _ (by omega)).mono ?_
    rintro e w4 ⟨rfl, rfl⟩
    go_wp2_with fail
    refine (SpliceList_impl _ xs _ _ _ (HU.out.bl (bl_trans B2.out B3.out)) (by omega)).mono ?_
    rintro e w4 ⟨v4, t4, rfl, o4, q4, s4, b4⟩
    rw [HLB.out] at o4
    rw [HTB.out] at q4
    have l1 := spLeft_len xs (J + K) hJK
    have l2 := spTaken_len xs (J + K) hJK
    obtain ⟨A4, c4, hv4, hc4, hm4, hx4⟩ := own_open o4
    obtain ⟨A5, c5, ht4, hc5, hm5, hx5⟩ := own_open q4
    clear hx4 hx5
    have O4 : Hid (Ints w4 v4 (spLeft xs (J + K))) := OwnI.ints o4
    have Q4 : Hid (Ints w4 t4 (spTaken xs (J + K))) := OwnI.ints q4
    rw [l1] at hv4 hc4
    rw [l2] at ht4 hc5
    subst hv4 ht4
    unfold maxLen at hm4 hm5
    have B4 := Lib.hid b4
    have HT2 := Lib.hid (spTaken_len xs J hJ)
    have HT3 := Lib.hid (spTaken_len (spLeft xs J) K (by rw [HSL.out]; exact hK))
    clear o4 q4 s4 b4 l1 l2
    have hsum : ((xs.length - (J + K) : Nat) : Int) + ((J : Int) + (K : Int)) = (xs.length : Int) := by omega
    go_wp2_with fail
    refine (same_true _ _ _ _ (O3.out.bl B4.out) O4.out).mono ?_
    rintro e w5 ⟨rfl, b5⟩
    have B5 := Lib.hid b5
    clear b5
    obtain ⟨i0, hi, hz0, hz1, hz2⟩ := info_parts intInfo
    have Q2i := Lib.hid (OwnI.ints Q2.out)
    obtain ⟨At2, ct2, ht2⟩ := ints_val' Q2i.out
    obtain ⟨At3, ct3, ht3⟩ := ints_val' Q3.out
    rw [HT2.out] at ht2
    rw [HT3.out] at ht3
    subst ht2 ht3
    have HB35 := Lib.hid (bl_trans B3.out (bl_trans B4.out B5.out))
    have HB45 := Lib.hid (bl_trans B4.out B5.out)
    have S2 : Hid (Sl w5 1 (.slice At2 J ct2) J ((spTaken xs J).map (Value.int .i64))) := by
      have := (Q2i.out.bl HB35.out)
      unfold Ints at this
      rw [HT2.out] at this
      exact this
    have S3 : Hid (Sl w5 1 (.slice At3 K ct3) K ((spTaken (spLeft xs J) K).map (Value.int .i64))) := by
      have := (Q3.out.bl HB45.out)
      unfold Ints at this
      rw [HT3.out] at this
      exact this
    go_wp2_with (at_builtin; first
      | (refine wpList_catg (w5.alloc (.cells #[] 3)) rfl (.tmp 80) (.tmp 81) _ rfl w5.heap.size 3 i0 _ 1 8 Try.underlying22 hi hz0 hz1 hz2 rfl (by decide) (.slice (some ⟨w5.heap.size, 0, none⟩) 0 0) 0 [] rfl (own_empty w5 _ _) _ J ((spTaken xs J).map (Value.int .i64)) rfl (S2.out.bl (bl_alloc (bl_refl w5) _)) (one_ints _) (by unfold maxLen; omega) (by omega) (by simp) ?_; intro v6 w6 o6 c6 l6; have b6 : Bl w5 w6 := bl_chg (bl_alloc (bl_refl w5) _) c6 (fun i hi => by simp [Value.ownBlock] at hi; omega))
      | (refine wpList_catg w6 rfl (.tmp 82) (.tmp 83) _ rfl w5.heap.size 3 i0 _ 1 8 Try.underlying22 hi hz0 hz1 hz2 rfl (by decide) v6 (0 + J) _ rfl o6 _ K ((spTaken (spLeft xs J) K).map (Value.int .i64)) rfl (S3.out.bl b6) (one_ints _) (by unfold maxLen; omega) (by omega) b6.size ?_; intro v7 w7 o7 c7 l7; have b7 : Bl w5 w7 := bl_own b6 o6 c7))
    have O7 : Hid (Ints w7 v7 (spTaken xs (J + K))) := by
      have h1 : OwnI w7 w5.heap.size v7 (spTaken xs (J + K)) := own_ints o7 (by rw [← TW2.out]; simp) (by rw [← TW2.out, List.length_append, HT2.out, HT3.out]; omega)
      exact OwnI.ints h1
    have B7 := Lib.hid b7
    clear o6 o7 c6 c7 l6 l7 b6 b7
    refine (same_true _ _ _ _ O7.out (Q4.out.bl (bl_trans B5.out B7.out))).mono ?_
    rintro e w8 ⟨rfl, b8⟩
    have B8 := Lib.hid (bl_trans B2.out (bl_trans B3.out (bl_trans B4.out (bl_trans B5.out (bl_trans B7.out b8)))))
    clear b8
    go_wp2
    go_ret
    exact ⟨rfl, B8.out⟩

end Go.Proofs.Ytgjackalcajmjaa
