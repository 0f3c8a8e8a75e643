/- The walk of CircleList. -/
import Derived.Test.YtebkmegkdcnfaaaCircle
import Derived.Test.YtebkmegkdcnfaaaTurnList
namespace Go.Proofs.Ytebkmegkdcnfaaa
open Go.RowKit

/-- The front one is out. -/
theorem holds_out {w wr w2 : World} {l : Nat} {es : List Nat} {zs : List Int} (hge : ∀ b ∈ l :: es, w.heap.size ≤ b) (hb : Bl w wr) (h2 : LC w2 l (es.eraseIdx 0) (zs.map I)) (c2 : Chg (· ∈ l :: es) wr w2) : HoldsL w w2 l zs := by
  refine ⟨_, h2, fun b hb' => ?_, bl_chg hb c2 hge⟩
  rcases List.mem_cons.1 hb' with rfl | hb'
  · exact hge _ (by simp)
  · exact hge b (List.mem_cons_of_mem _ (List.mem_of_mem_eraseIdx hb'))

set_option maxRecDepth 100000 in
set_option maxHeartbeats 2000000 in
theorem CircleList_impl (n k : Int) (w : World) : Calls Try.prog 38 #[.int .i64 n, .int .i64 k] w (NewInts w (circleOf n k)) := by
  obtain ⟨i0, hi, hz0, hz1, hz2⟩ := info_parts intInfo
  have hn := ix_lt n (n := 200) (by omega)
  have hfb := farOf_bd k
  go_enter Try.func38, Try.ntmps38
  go_wp2_with fail
  refine (lnew_any _).mono ?_
  rintro e w1 ⟨rfl, h1, b1, _⟩
  have H1 : Hid (HoldsL w w1 w.heap.size (nums 0)) := ⟨[], h1, by simp, b1⟩
  clear h1 b1
  generalize hroot : w.heap.size = root at *
  have HR := Lib.hid hroot
  clear hroot
  have HC : Hid (circleOf n k = circle (farOf k) (nums (ix n 200))) := rfl
  generalize hix : ix n 200 = N at *
  have HIX := Lib.hid hix
  clear hix
  go_wp2
  go_loopw [6] (fun i wr => ∃ j : Nat, j ≤ N ∧ i = .int .i64 j ∧ HoldsL w wr root (nums j)) (fun i _ => N - (intOf i).toNat)
  case atStart => exact ⟨0, Nat.zero_le _, rfl, H1.out⟩
  case round =>
    obtain ⟨j, hj, rfl, es, hlc, hge, hbl⟩ := hrel
    have hel : es.length = j := by rw [hlc.len_eq, List.length_map, nums_len]
    have HEL := Lib.hid hel
    have HLC := Lib.hid hlc
    have HGE := Lib.hid hge
    have HBL := Lib.hid hbl
    clear hlc hge hbl hel
    go_wp2_with fail
    refine (at_ix n 200 _ (by omega) (by omega)).mono ?_
    rintro e w2 ⟨rfl, rfl⟩
    rw [HIX.out]
    by_cases hlt : j < N
    · go_wp2_with fail
      refine (pushBack_lc HLC.out _ _ (by have := HEL.out; omega)).mono ?_
      rintro e w3 ⟨rfl, h3, c3⟩
      have H3 : Hid (HoldsL w w3 root (nums (j + 1))) := by
        obtain ⟨x1, x2⟩ := list_grow HBL.out HGE.out c3
        exact ⟨_, by rw [nums_succ, List.map_append]; exact h3, x1, x2⟩
      clear h3 c3
      go_wp2
      go_roundw
      case rel => exact ⟨j + 1, by omega, by go_num, H3.out⟩
      case measure => simp [intOf]; omega
    · obtain rfl : j = N := by omega
      go_wp2
      go_loopg [7, 8] j (fun g ov _ wr => ∃ (xs ys : List Int), xs.length = g ∧ ys.length + xs.length < 200 ∧ HoldsL w wr root xs ∧ OwnI wr w.heap.size ov ys ∧ circleOf n k = ys ++ circle (farOf k) xs)
      case atStart => exact ⟨nums j, [], nums_len _, by rw [nums_len]; simpa using hn, ⟨es, HLC.out.bl (bl_alloc (bl_refl _) _), HGE.out, bl_alloc HBL.out _⟩, own_base (own_empty _ _ _) HBL.out.size, HC.out⟩
      case round =>
        clear HLC HGE HBL HEL es
        obtain ⟨xs, ys, hgk, hsz, ⟨es, hlc, hge, hbl⟩, oy, hci⟩ := hrel
        have hel : es.length = xs.length := by rw [hlc.len_eq, List.length_map]
        have HEL := Lib.hid hel
        have HLC := Lib.hid hlc
        have HGE := Lib.hid hge
        have HBL := Lib.hid hbl
        have OY := Lib.hid oy
        have HCI := Lib.hid hci
        have HG := Lib.hid hgk
        clear hlc hge hbl oy hci hgk
        go_wp2_with fail
        refine (llen_lc HLC.out).mono ?_
        rintro e w2 ⟨rfl, rfl⟩
        rw [hel]
        clear hel
        rcases Nat.eq_zero_or_pos xs.length with h0 | h0
        · obtain rfl : xs = [] := List.eq_nil_of_length_eq_zero h0
          rw [circle_nil, List.append_nil] at HCI
          simp only [List.length_nil]
          go_wp2
          go_ret
          exact ⟨_, rfl, by rw [HCI.out]; exact OY.out, HBL.out⟩
        · have hk := ix_lt (farOf k) h0
          go_wp2_with fail
          refine (far_any k _).mono ?_
          rintro e w2 ⟨rfl, rfl⟩
          go_wp2_with fail
          refine (llen_lc HLC.out).mono ?_
          rintro e w2 ⟨rfl, rfl⟩
          rw [HEL.out]
          go_wp2_with fail
          refine (at_ix (farOf k) xs.length _ h0 (by omega)).mono ?_
          rintro e w2 ⟨rfl, rfl⟩
          have HCC : Hid (∀ y ys, rot xs (ix (farOf k) xs.length) = y :: ys → circle (farOf k) xs = y :: circle (farOf k) ys ∧ xs.length = ys.length + 1) := fun y ys h => circle_cons h
          generalize ix (farOf k) xs.length = K at *
          go_wp2
          go_loopw [8] (fun i wr => ∃ t : Nat, t ≤ K ∧ i = .int .i64 ((K - t : Nat) : Int) ∧ HoldsL w wr root (rot xs t) ∧ OwnI wr w.heap.size u7 ys) (fun i _ => (intOf i).toNat)
          case atStart => exact ⟨0, Nat.zero_le _, rfl, ⟨es, by rw [show rot xs 0 = xs by simp [rot]]; exact HLC.out, HGE.out, HBL.out⟩, OY.out⟩
          case round =>
            clear HLC HGE HBL HEL OY es
            obtain ⟨t, ht, rfl, ⟨es, hlc, hge, hbl⟩, oy⟩ := hrel
            have HLC := Lib.hid hlc
            have HGE := Lib.hid hge
            have HBL := Lib.hid hbl
            have OY := Lib.hid oy
            clear hlc hge hbl oy
            have htx : t < xs.length := by omega
            obtain ⟨e1, e2⟩ := rot_cons xs t htx
            have HE1 := Lib.hid e1
            have HE2 := Lib.hid e2
            rw [e1] at HLC
            clear e1 e2
            generalize xs.drop (t + 1) ++ xs.take t = zs at *
            generalize xs[t] = y at *
            have hes : 0 < es.length := by rw [HLC.out.len_eq]; simp
            have hes2 : es.length ≤ 200 := by
              have h1 := congrArg List.length HE1.out
              rw [rot_len] at h1
              rw [HLC.out.len_eq, List.length_map, ← h1]; omega
            have HE := Lib.hid (List.getElem?_eq_getElem hes)
            have HF := Lib.hid (front_some HLC.out hes)
            generalize es[0] = q at *
            by_cases hlt : t < K
            · have hpos : (0 : Int) < ((K - t : Nat) : Int) := by omega
              go_wp2_with fail
              refine HF.out.mono ?_
              rintro e w3 ⟨rfl, rfl⟩
              go_wp2_with fail
              refine (moveToBack_lc HLC.out HE.out (v := I y) rfl).mono ?_
              rintro e w4 ⟨rfl, h4, c4⟩
              have H4 := Lib.hid (holds_step HE.out HGE.out HBL.out h4 c4)
              have O4 := Lib.hid (HLC.out.own c4 OY.out (by decide) (by decide))
              clear h4 c4
              go_wp2
              go_roundw
              case rel =>
                refine ⟨t + 1, by omega, ?_, by rw [HE2.out]; exact H4.out, O4.out⟩
                rw [show ((K - (t + 1) : Nat) : Int) = ((K - t : Nat) : Int) - 1 by omega]
              case measure => simp [intOf]; omega
            · obtain rfl : t = K := by omega
              rw [Nat.sub_self]
              obtain ⟨q1, q2⟩ := HCC.out y zs HE1.out
              have Q1 := Lib.hid q1
              have Q2 := Lib.hid q2
              clear q1 q2
              have hta := run_assert_int y
              go_wp2_with fail
              refine HF.out.mono ?_
              rintro e w3 ⟨rfl, rfl⟩
              go_wp2_with fail
              refine (lremove_lc HLC.out (by omega) HE.out (v := I y) rfl).mono ?_
              rintro e w4 ⟨rfl, h4, c4⟩
              have H4 := Lib.hid (holds_out HGE.out HBL.out h4 c4)
              have O4 := Lib.hid (HLC.out.own c4 OY.out (by decide) (by decide))
              clear h4 c4
              go_wp2_with (at_builtin; go_must (refine wpList_push w4 rfl (.tmp 37) (.tmp 43) _ rfl w.heap.size 3 i0 _ 8 Try.underlying23 hi hz0 hz1 hz2 rfl u7 _ _ rfl O4.out (.int .i64 y) rfl rfl rfl (by omega) (by omega) ?_ ?_))
              · exact H4.out.choose_spec.2.2.size
              · intro v5 w5 hown5 hchg5 hloc5
                have O5 := Lib.hid (OwnI.snoc hown5)
                have H5 : Hid (HoldsL w w5 root zs) := by
                  obtain ⟨es4, x1, x2, x3⟩ := H4.out
                  exact ⟨es4, x1.chg hchg5 (fun b hb => x1.ne_own O4.out (by decide) (by decide) b hb), x2, bl_own x3 O4.out hchg5⟩
                clear hown5 hchg5 hloc5
                go_wp2
                go_roundg zs.length
                case rel =>
                  refine ⟨zs, ys ++ [y], rfl, ?_, H5.out, O5.out, by rw [HCI.out, Q1.out, List.append_assoc]; rfl⟩
                  have := Q2.out
                  rw [List.length_append]; simp; omega
                case measure => have := Q2.out; have := HG.out; omega

end Go.Proofs.Ytebkmegkdcnfaaa
