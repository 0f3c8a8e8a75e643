/- The walks of CircleList's reference. -/
import Derived.Test.YthomhekbikpcfaaCirclePure
import Derived.Test.YthomhekbikpcfaaSeq
namespace Go.Proofs.Ythomhekbikpcfaa
open Go.RowKit

/-- What comes out. -/
def circleOf (n k : Int) : List Int := circle (farOf k) (nums (ix n 200))
theorem circleOf_len (n k : Int) : (circleOf n k).length < 200 := by
  unfold circleOf; rw [circle_len, nums_len]; exact ix_lt n (by omega)

set_option maxHeartbeats 1000000 in
theorem CircleList_spec (n k : Int) (w : World) : Calls Try.prog 29 #[.int .i64 n, .int .i64 k] w (NewInts w (circleOf n k)) := by
  obtain ⟨i0, hi, hz0, hz1, hz2⟩ := info_parts intInfo
  have hn := ix_lt n (n := 200) (by omega)
  have hfb := farOf_bd k
  go_enter Try.func29, Try.ntmps29
  go_wp2_with fail
  refine (First_any n _).mono ?_
  rintro e w1 ⟨v1, rfl, o1, b1⟩
  have o1' : OwnI w1 w.heap.size v1 (nums (ix n 200)) := o1
  obtain ⟨A1, c1, rfl, hc1, hm1, _⟩ := own_open o1'
  have O1 := Lib.hid o1'
  have B1 := Lib.hid b1
  clear o1 b1 o1'
  have hn1 : (nums (ix n 200)).length < 200 := by rw [nums_len]; exact hn
  have HC : Hid (circleOf n k = circle (farOf k) (rot (nums (ix n 200)) 0)) := by show circleOf n k = _; rw [show rot (nums (ix n 200)) 0 = nums (ix n 200) by simp [rot]]; rfl
  have HS : Hid (∀ g, (Value.slice A1 (nums (ix n 200)).length c1).ownBlock = some g → ¬ (Value.slice (some ⟨w1.heap.size, 0, none⟩) 0 0).ownBlock = some g) := fun g hg hg' => by
    have := (own_lt O1.out g hg).2
    simp [Value.ownBlock] at hg'; omega
  go_wp2
  go_loopg [5, 6, 7] (nums (ix n 200)).length (fun g xv ov iv wr => ∃ (xs ys : List Int) (i : Nat), xs.length = g ∧ iv = .int .i64 i ∧ i ≤ xs.length ∧ ys.length + xs.length < 200 ∧ OwnI wr w.heap.size xv xs ∧ OwnI wr w.heap.size ov ys ∧ (∀ g, xv.ownBlock = some g → ¬ ov.ownBlock = some g) ∧ circleOf n k = ys ++ circle (farOf k) (rot xs i) ∧ Bl w wr)
  case atStart => exact ⟨nums (ix n 200), [], 0, rfl, rfl, Nat.zero_le _, by simpa using hn1, own_bl O1.out (bl_alloc (bl_refl _) _), own_base (own_empty _ _ _) B1.out.size, HS.out, HC.out, bl_alloc B1.out _⟩
  case round =>
    obtain ⟨xs, ys, i, hgk, rfl, hil, hlen, ox, oy, hsep, hcir, hbl⟩ := hrel
    obtain ⟨A2, c2, rfl, hc2, hm2, hA2⟩ := own_open ox
    unfold maxLen at hm2
    have HJ := Lib.hid hgk
    clear hgk
    have OX := Lib.hid ox
    have OY := Lib.hid oy
    have HSP := Lib.hid hsep
    have HCI := Lib.hid hcir
    have HB := Lib.hid hbl
    clear ox oy hsep hcir hbl
    rcases Nat.eq_zero_or_pos xs.length with h0 | h0
    · obtain rfl : xs = [] := List.eq_nil_of_length_eq_zero h0
      have HE : Hid (circleOf n k = ys) := by
        have e : rot ([] : List Int) i = [] := by simp [rot]
        have := HCI.out
        rw [e, circle_nil, List.append_nil] at this
        exact this
      simp only [List.length_nil] at *
      go_wp2
      go_ret
      exact ⟨_, rfl, by rw [HE.out]; exact OY.out, HB.out⟩
    · have hj := ix_lt ((i : Int) + farOf k) h0
      have hst := circle_step (farOf k) i hil h0 _ rfl hj
      obtain ⟨g2, rfl, hg2⟩ := hA2 h0
      have hc3 := own_cell OX.out (k := ix ((i : Int) + farOf k) xs.length) (by omega)
      have e3 : (xs.map (Value.int .i64)).getD (ix ((i : Int) + farOf k) xs.length) undef = .int .i64 xs[ix ((i : Int) + farOf k) xs.length] := by
        rw [List.getD_eq_getElem?_getD, List.getElem?_map, List.getElem?_eq_getElem hj]; rfl
      rw [e3] at hc3
      have HST := Lib.hid hst
      clear hst e3
      go_wp2_with fail
      refine (Far_any k _).mono ?_
      rintro e w2 ⟨rfl, rfl⟩
      go_wp2_with fail
      refine (At_ix ((i : Int) + farOf k) xs.length _ h0 (by omega)).mono ?_
      rintro e w2 ⟨rfl, rfl⟩
      generalize ix ((i : Int) + farOf k) xs.length = j at *
      generalize hy : xs[j] = y at *
      clear hy
      go_wp2_with (at_builtin; go_must (refine wpList_push w2 rfl (.tmp 21) (.tmp 26) _ rfl w.heap.size 3 i0 _ 8 Try.underlying24 hi hz0 hz1 hz2 rfl u6 _ _ rfl OY.out (.int .i64 y) rfl rfl rfl (by omega) (by omega) HB.out.size ?_); intro v4 w4 hown4 hchg4 hloc4)
      have OX4 := Lib.hid (own_chg OX.out hchg4 HSP.out)
      have OY4 := Lib.hid (OwnI.snoc hown4)
      have HB4 := Lib.hid (bl_own HB.out OY.out hchg4)
      clear hown4 hchg4 hloc4
      go_wp2_with fail
      refine (without_any _ xs j _ (OwnI.ints OX4.out) hj (by omega)).mono ?_
      rintro e w5 ⟨v5, rfl, o5, b5⟩
      have OX5 := Lib.hid (own_base o5 HB4.out.size)
      have HS5 := Lib.hid (sep_of (fun g hg => (own_lt OY4.out g hg).2) (fun g hg => (own_lt o5 g hg).1))
      have OY5 := Lib.hid (own_bl OY4.out b5)
      have HB5 := Lib.hid (bl_trans HB4.out b5)
      clear o5 b5
      have hle : (xs.eraseIdx j).length = xs.length - 1 := by rw [List.length_eraseIdx, if_pos hj]
      go_wp2
      go_roundg (xs.eraseIdx j).length
      case rel =>
        refine ⟨xs.eraseIdx j, ys ++ [y], j, rfl, rfl, by omega, by rw [List.length_append, hle]; simp; omega, OX5.out, OY5.out, fun g hg hg' => HS5.out g hg' hg, ?_, HB5.out⟩
        rw [HCI.out, HST.out, List.append_assoc]; rfl
      case measure => have := HJ.out; omega

end Go.Proofs.Ythomhekbikpcfaa
