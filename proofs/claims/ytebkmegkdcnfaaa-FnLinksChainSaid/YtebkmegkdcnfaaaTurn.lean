/- The walks of the turns: of the reference, and over a ring. -/
import Derived.Test.YtebkmegkdcnfaaaSeq
import Derived.Test.YtebkmegkdcnfaaaDo
namespace Go.Proofs.Ytebkmegkdcnfaaa
open Go.RowKit

/-- A list that is turned. -/
def turnOf (xs : List Int) (a : Int) : List Int := rot xs (ix (farOf a) xs.length)
theorem turnOf_len (xs : List Int) (a : Int) : (turnOf xs a).length = xs.length := rot_len _ _
theorem turnOf_nil (a : Int) : turnOf [] a = [] := by simp [turnOf, rot]

set_option maxRecDepth 100000 in
set_option maxHeartbeats 1000000 in
theorem TurnList_spec (v : Value) (xs : List Int) (a : Int) (w : World) (hv : Ints w v xs) (hl : xs.length ≤ 17592186043904) :
    Calls Try.prog 39 #[v, .int .i64 a] w (NewInts w (turnOf xs a)) := by
  obtain ⟨A, c, rfl, hc, hm, _⟩ := hv.open
  have HV := Lib.hid hv
  clear hv
  unfold maxLen at hm
  obtain ⟨i0, hi, hz0, hz1, hz2⟩ := info_parts intInfo
  rcases Nat.eq_zero_or_pos xs.length with h0 | h0
  · obtain rfl : xs = [] := List.eq_nil_of_length_eq_zero h0
    simp only [List.length_nil] at *
    go_enter Try.func39, Try.ntmps39
    go_wp2
    go_ret
    exact ⟨_, rfl, by rw [turnOf_nil]; exact own_empty _ _ _, bl_alloc (bl_refl _) _⟩
  · have hn0 : ((xs.length : Int) == 0) = false := by rw [beq_eq_false_iff_ne]; omega
    have hk := ix_lt (farOf a) h0
    have HT : Hid (turnOf xs a = rot xs (ix (farOf a) xs.length)) := rfl
    go_enter Try.func39, Try.ntmps39
    go_wp2_with fail
    refine (Far_any a _).mono ?_
    rintro e w1 ⟨rfl, rfl⟩
    go_wp2_with fail
    refine (At_ix (farOf a) xs.length _ h0 (by omega)).mono ?_
    rintro e w1 ⟨rfl, rfl⟩
    generalize ix (farOf a) xs.length = k at *
    have hk1 : k ≤ c := by omega
    have hk2 : k ≤ xs.length := by omega
    go_wp2
    go_region_law (first
      | (refine step_cat _ rfl (.tmp 14) (.tmp 17) _ rfl w1.heap.size 3 i0 _ 1 8 Try.underlying23 hi hz0 hz1 hz2 rfl (by decide) _ 0 [] rfl (own_empty w1 _ _) _ (xs.length - k) ((xs.drop k).map (Value.int .i64)) rfl ((HV.out.bl (bl_drew (bl_alloc (bl_refl w1) _))).drop k hk2) (one_ints _) (by unfold maxLen; omega) (by omega) (by simp) ?_
         intro v2 w2 o2 c2 l2)
      | (refine step_cat _ rfl (.tmp 18) (.tmp 21) _ rfl w1.heap.size 3 i0 _ 1 8 Try.underlying23 hi hz0 hz1 hz2 rfl (by decide) v2 (0 + (xs.length - k)) _ rfl o2 _ k ((xs.take k).map (Value.int .i64)) rfl ?_ (one_ints _) (by unfold maxLen; omega) (by omega) ?_ ?_
         · have hb := bl_own (bl_drew (bl_alloc (bl_refl w1) _)) (own_empty w1 3 1) c2
           exact (HV.out.bl hb).take k hk2
         · exact Nat.le_trans (by simp) c2.size
         intro v3 w3 o3 c3 l3))
    have O3 := Lib.hid o3
    have B3 := Lib.hid (bl_own (bl_own (bl_drew (bl_alloc (bl_refl w1) _)) (own_empty w1 3 1) c2) o2 c3)
    clear o2 o3 c2 c3 l2 l3
    go_wp2
    all_goals
      go_ret
      exact ⟨v3, rfl, own_ints O3.out (by rw [HT.out]; simp [rot]) (by rw [HT.out, rot_len]; omega), B3.out⟩


/-- Move, by whatever distance, in a ring of numbers. -/
theorem move_ix {w : World} {n B : Nat} {val : Nat → Value} (hr : Ring w (· < n) (B + ·) (nxc n) (pvc n) val) (hn : 0 < n) {j : Nat} (hj : j < n) (d : Int) (hd : -1073741824 ≤ d ∧ d ≤ 1073741824) :
    Calls Try.prog 64 #[P (B + j), .int .i64 d] w fun e w' => e = .returned (P (B + ix ((j : Int) + d) n)) ∧ Kept w (· < n) (B + ·) (nxc n) (pvc n) val w' ∧ Inited w' (B + j) := by
  rcases (by omega : d < 0 ∨ 0 ≤ d) with h | h
  · obtain ⟨m, rfl⟩ : ∃ m : Nat, d = -(m : Int) := ⟨(-d).toNat, by omega⟩
    have := move_bwd hr hj m (by omega) (by omega)
    rw [iter_neg n hn j hj m] at this
    exact this
  · obtain ⟨m, rfl⟩ : ∃ m : Nat, d = (m : Int) := ⟨d.toNat, by omega⟩
    have := move_fwd hr hj m (by omega)
    rw [iter_pos n hn j hj m] at this
    exact this

/-- around, in a ring of numbers, from j on. -/
theorem around_ix {w : World} {B : Nat} {xs : List Int} (hr : Ring w (· < xs.length) (B + ·) (nxc xs.length) (pvc xs.length) (fun j => I (xs.getD j 0))) {j : Nat} (hj : j < xs.length) (hl : xs.length ≤ 17592186043904) :
    Calls Try.prog 57 #[P (B + j)] w (Around w (· < xs.length) (B + ·) (nxc xs.length) (pvc xs.length) (fun j => I (xs.getD j 0)) (rot xs j)) := by
  obtain ⟨h1, h2⟩ := path_rot xs.length j hj
  have h3 := rot_nodup xs.length j hj
  have h4 : ∀ x ∈ (rot (List.range xs.length) j).tail, x < xs.length := fun x hx => (rot_mem xs.length j x).1 (List.mem_of_mem_tail hx)
  have hlen : (rot (List.range xs.length) j).tail.length < 17592186043904 := by
    rw [List.length_tail, rot_len, List.length_range]; omega
  have h := around_any hr hj _ h1 h3 h4 (fun j => xs.getD j 0) (fun _ _ => rfl) hlen
  rw [h2, rot_map, range_get] at h
  exact h


end Go.Proofs.Ytebkmegkdcnfaaa
