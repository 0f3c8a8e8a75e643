/- The walks of the turns: of the reference, and over a ring. -/
import Derived.Test.YtgjackalcajmjaaSeq
import Derived.Test.YtgjackalcajmjaaDo
namespace Go.Proofs.Ytgjackalcajmjaa
open Go.RowKit

/-- A list that is turned. -/
def turnOf (xs : List Int) (a : Int) : List Int := rot xs (ix (farOf a) xs.length)
theorem turnOf_len (xs : List Int) (a : Int) : (turnOf xs a).length = xs.length := rot_len _ _
theorem turnOf_nil (a : Int) : turnOf [] a = [] := by simp [turnOf, rot]



/-- Move, by whatever distance, in a ring of numbers. -/
theorem move_ix {w : World} {n B : Nat} {val : Nat → Value} (hr : Ring w (· < n) (B + ·) (nxc n) (pvc n) val) (hn : 0 < n) {j : Nat} (hj : j < n) (d : Int) (hd : -1073741824 ≤ d ∧ d ≤ 1073741824) :
    Calls Try.prog 54 #[P (B + j), .int .i64 d] w fun e w' => e = .returned (P (B + ix ((j : Int) + d) n)) ∧ Kept w (· < n) (B + ·) (nxc n) (pvc n) val w' ∧ Inited w' (B + j) := by
  rcases (by omega : d < 0 ∨ 0 ≤ d) with h | h
  · obtain ⟨m, rfl⟩ : ∃ m : Nat, d = -(m : Int) := ⟨(-d).toNat, by omega⟩
    have := move_bwd hr hj m (by omega) (by omega)
    rw [iter_neg n hn j hj m] at this
    exact this
  · obtain ⟨m, rfl⟩ : ∃ m : Nat, d = (m : Int) := ⟨d.toNat, by omega⟩
    have := move_fwd hr hj m (by omega)
    rw [iter_pos n hn j hj m] at this
    exact this

/-- around, in a ring of numbers, from j on. -/
theorem around_ix {w : World} {B : Nat} {xs : List Int} (hr : Ring w (· < xs.length) (B + ·) (nxc xs.length) (pvc xs.length) (fun j => I (xs.getD j 0))) {j : Nat} (hj : j < xs.length) (hl : xs.length ≤ 17592186043904) :
    Calls Try.prog 49 #[P (B + j)] w (Around w (· < xs.length) (B + ·) (nxc xs.length) (pvc xs.length) (fun j => I (xs.getD j 0)) (rot xs j)) := by
  obtain ⟨h1, h2⟩ := path_rot xs.length j hj
  have h3 := rot_nodup xs.length j hj
  have h4 : ∀ x ∈ (rot (List.range xs.length) j).tail, x < xs.length := fun x hx => (rot_mem xs.length j x).1 (List.mem_of_mem_tail hx)
  have hlen : (rot (List.range xs.length) j).tail.length < 17592186043904 := by
    rw [List.length_tail, rot_len, List.length_range]; omega
  have h := around_any hr hj _ h1 h3 h4 (fun j => xs.getD j 0) (fun _ _ => rfl) hlen
  rw [h2, rot_map, range_get] at h
  exact h

set_option maxHeartbeats 1000000 in
theorem TurnRing_impl (v : Value) (xs : List Int) (a : Int) (w : World) (hv : Ints w v xs) (hl : xs.length ≤ 17592186043904) :
    Calls Try.prog 24 #[v, .int .i64 a] w (NewInts w (turnOf xs a)) := by
  have HV := Lib.hid hv
  rcases Nat.eq_zero_or_pos xs.length with h0 | h0
  · obtain rfl : xs = [] := List.eq_nil_of_length_eq_zero h0
    clear hv
    go_enter Try.func24, Try.ntmps24
    go_wp2_with fail
    refine (ringOf_none v _ HV.out).mono ?_
    rintro e w1 ⟨rfl, rfl⟩
    go_wp2
    go_ret
    exact ⟨_, rfl, by rw [turnOf_nil]; exact own_empty _ _ _, bl_alloc (bl_refl _) _⟩
  · clear hv
    have hfb := farOf_bd a
    have hk := ix_lt (farOf a) h0
    have HT : Hid (turnOf xs a = rot xs (ix (farOf a) xs.length)) := rfl
    go_enter Try.func24, Try.ntmps24
    go_wp2_with fail
    refine (ringOf_some v xs _ HV.out h0 hl).mono ?_
    rintro e w1 ⟨rfl, r1⟩
    have R1 := Lib.hid r1
    clear r1
    go_wp2_with fail
    refine (far_any a _).mono ?_
    rintro e w2 ⟨rfl, rfl⟩
    go_wp2_with fail
    refine (move_ix R1.out.ring h0 h0 (farOf a) (by omega)).mono ?_
    rintro e w2 ⟨rfl, k2, _⟩
    have K2 := Lib.hid k2
    clear k2
    rw [show ((0 : Nat) : Int) + farOf a = farOf a by omega]
    go_wp2_with fail
    refine (around_ix K2.out.ring hk hl).mono ?_
    rintro e w3 ⟨v3, rfl, o3, _, _, c3⟩
    have hge : ∀ i, At (· < xs.length) (w.heap.size + ·) i → w.heap.size ≤ i := by rintro i ⟨j, _, e⟩; subst e; exact Nat.le_add_right _ _
    have B2 := bl_chg R1.out.bl K2.out.chg hge
    have O3 := Lib.hid (own_base o3 B2.size)
    have B3 := Lib.hid (bl_chg B2 c3 hge)
    clear o3 c3 B2 hge
    go_wp2
    go_ret
    exact ⟨_, rfl, by rw [HT.out]; exact O3.out, B3.out⟩

end Go.Proofs.Ytgjackalcajmjaa
