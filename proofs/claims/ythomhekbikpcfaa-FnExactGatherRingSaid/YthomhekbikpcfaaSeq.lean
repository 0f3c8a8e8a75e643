/- The walks of the reference's functions that cut and join slices of ints. -/
import Derived.Test.YthomhekbikpcfaaAt
import Derived.Test.YthomhekbikpcfaaSortPure
namespace Go.Proofs.Ythomhekbikpcfaa
open Go.RowKit

/-- Parts of a slice of ints. -/
theorem Ints.take {w : World} {A : Option Addr} {n c : Nat} {xs : List Int} (h : Ints w (.slice A n c) xs) (k : Nat) (hk : k ≤ n) : Sl w 1 (.slice A k c) k ((xs.take k).map (Value.int .i64)) := by
  obtain ⟨h1, A', c', e, h2, h3, h4⟩ := h
  simp at e
  obtain ⟨rfl, rfl, rfl⟩ := e
  refine ⟨by simp; omega, _, _, rfl, by omega, h3, fun hn => ?_⟩
  obtain ⟨b, off, e, h5⟩ := h4 (by omega)
  refine ⟨b, off, e, fun j u hu => h5 j u ?_⟩
  rw [List.map_take, List.getElem?_take] at hu
  split at hu
  · exact hu
  · cases hu

theorem Ints.drop {w : World} {A : Option Addr} {n c : Nat} {xs : List Int} (h : Ints w (.slice A n c) xs) (k : Nat) (hk : k ≤ n) :
    Sl w 1 (.slice (if c = k then A else A.map (·.add k)) (n - k) (c - k)) (n - k) ((xs.drop k).map (Value.int .i64)) := by
  obtain ⟨h1, A', c', e, h2, h3, h4⟩ := h
  simp at e
  obtain ⟨rfl, rfl, rfl⟩ := e
  refine ⟨by simp, _, _, rfl, by omega, by unfold maxLen at *; omega, fun hn => ?_⟩
  obtain ⟨b, off, e, h5⟩ := h4 (by omega)
  subst e
  rw [if_neg (by omega)]
  refine ⟨b, off + k, ?_, fun j u hu => ?_⟩
  · simp only [Option.map_some, Addr.add]
    split
    · subst_vars; rfl
    · rfl
  · have := h5 (k + j) u (by rw [List.map_drop, List.getElem?_drop] at hu; exact hu)
    rw [← Nat.add_assoc] at this
    exact this

theorem one_ints (xs : List Int) : ∀ y ∈ xs.map (Value.int .i64), y.oneCell' = true := by
  intro y hy
  obtain ⟨x, _, rfl⟩ := List.mem_map.1 hy
  rfl

theorem own_ints {w : World} {base n : Nat} {v : Value} {cs : List Value} {xs : List Int} (h : w.ownsRow base 3 1 v n cs) (hc : xs.map (Value.int .i64) = cs) (hn : xs.length = n) : w.ownsRow base 3 1 v xs.length (xs.map (Value.int .i64)) := by
  rw [hc, hn]; exact h

set_option maxHeartbeats 1000000 in
theorem without_any (v : Value) (xs : List Int) (k : Nat) (w : World) (hv : Ints w v xs) (hk : k < xs.length) (hl : xs.length ≤ 17592186043904) :
    Calls Try.prog 70 #[v, .int .i64 k] w (NewInts w (xs.eraseIdx k)) := by
  obtain ⟨A, c, rfl, hc, hm, _⟩ := hv.open
  have HV := Lib.hid hv
  clear hv
  unfold maxLen at hm
  obtain ⟨i0, hi, hz0, hz1, hz2⟩ := info_parts intInfo
  have hk1 : k ≤ c := by omega
  have hk2 : (k : Int) + 1 ≤ (xs.length : Int) := by omega
  have hk3 : IntKind.i64.wrap ((k : Int) + 1) = (k : Int) + 1 := IntWalk.i64_in _ (by omega)
  have hk4 : (0 : Int) ≤ (k : Int) + 1 := by omega
  have hk5 : ((k : Int) + 1).toNat = k + 1 := by omega
  go_enter Try.func70, Try.ntmps70
  go_wp2
  go_region_law (first
    | (refine step_cat _ rfl (.tmp 5) (.tmp 8) _ rfl w.heap.size 3 i0 _ 1 8 Try.underlying24 hi hz0 hz1 hz2 rfl (by decide) _ 0 [] rfl (own_empty w _ _) _ k _ rfl ((HV.out.bl (bl_drew (bl_alloc (bl_refl w) _))).take k (by omega)) (one_ints _) (by unfold maxLen; omega) (by omega) (by simp) ?_
       intro v1 w1 o1 c1 l1)
    | (refine step_cat _ rfl (.tmp 9) (.tmp 13) _ rfl w.heap.size 3 i0 _ 1 8 Try.underlying24 hi hz0 hz1 hz2 rfl (by decide) v1 (0 + k) _ rfl o1 _ (xs.length - (k + 1)) ((xs.drop (k + 1)).map (Value.int .i64)) rfl ?_ (one_ints _) (by unfold maxLen; omega) (by omega) ?_ ?_
       · have hb := bl_own (bl_drew (bl_alloc (bl_refl w) _)) (own_empty w 3 1) c1
         exact (HV.out.bl hb).drop (k + 1) (by omega)
       · exact Nat.le_trans (by simp) c1.size
       intro v2 w2 o2 c2 l2))
  have O2 := Lib.hid o2
  have B2 := Lib.hid (bl_own (bl_own (bl_drew (bl_alloc (bl_refl w) _)) (own_empty w 3 1) c1) o1 c2)
  clear o1 o2 c1 c2 l1 l2
  go_wp2
  all_goals
    go_ret
    exact ⟨v2, rfl, own_ints O2.out (by rw [List.eraseIdx_eq_take_drop_succ]; simp) (by rw [List.length_eraseIdx]; split <;> omega), B2.out⟩


set_option maxHeartbeats 2000000 in
theorem with_any (v : Value) (xs : List Int) (k : Nat) (x : Int) (w : World) (hv : Ints w v xs) (hk : k ≤ xs.length) (hl : xs.length ≤ 17592186043904) :
    Calls Try.prog 58 #[v, .int .i64 k, .int .i64 x] w (NewInts w (ins xs k x)) := by
  obtain ⟨A, c, rfl, hc, hm, _⟩ := hv.open
  have HV := Lib.hid hv
  clear hv
  unfold maxLen at hm
  obtain ⟨i0, hi, hz0, hz1, hz2⟩ := info_parts intInfo
  have hk1 : k ≤ c := by omega
  go_enter Try.func58, Try.ntmps58
  go_wp2
  go_region_law (first
    | (refine step_cat _ rfl (.tmp 7) (.tmp 10) _ rfl w.heap.size 3 i0 _ 1 8 Try.underlying24 hi hz0 hz1 hz2 rfl (by decide) (.slice (some ⟨w.heap.size, 0, none⟩) 0 0) 0 [] rfl ?_ _ k ((xs.take k).map (Value.int .i64)) rfl ?_ (one_ints _) (by unfold maxLen; omega) (by omega) (by simp; try omega) ?_
       · first | exact own_empty w _ _ | exact own_empty_at (heap_two_0 w _ _) (by omega)
       · exact (HV.out.bl (by first | exact bl_drew (bl_alloc (bl_refl w) _) | exact bl_drew (bl_alloc (bl_alloc (bl_refl w) _) _))).take k hk
       intro v1 w1 o1 c1 l1
       have b1 : Bl w w1 := bl_chg (by first | exact bl_drew (bl_alloc (bl_refl w) _) | exact bl_drew (bl_alloc (bl_alloc (bl_refl w) _) _)) c1 (fun i hi => by simp [Value.ownBlock] at hi; omega))
    | (refine step_cat _ rfl (.tmp 7) (.tmp 10) _ rfl w.heap.size 3 i0 _ 1 8 Try.underlying24 hi hz0 hz1 hz2 rfl (by decide) (.slice (some ⟨w.heap.size + 1, 0, none⟩) 0 0) 0 [] rfl ?_ _ k ((xs.take k).map (Value.int .i64)) rfl ?_ (one_ints _) (by unfold maxLen; omega) (by omega) (by simp; try omega) ?_
       · exact own_empty_at (heap_two_1 w _ _) (by omega)
       · exact (HV.out.bl (by first | exact bl_drew (bl_alloc (bl_refl w) _) | exact bl_drew (bl_alloc (bl_alloc (bl_refl w) _) _))).take k hk
       intro v1 w1 o1 c1 l1
       have b1 : Bl w w1 := bl_chg (by first | exact bl_drew (bl_alloc (bl_refl w) _) | exact bl_drew (bl_alloc (bl_alloc (bl_refl w) _) _)) c1 (fun i hi => by simp [Value.ownBlock] at hi; omega))
    | (refine step_cat _ rfl (.tmp 11) (.tmp 13) _ rfl w.heap.size 3 i0 _ 1 8 Try.underlying24 hi hz0 hz1 hz2 rfl (by decide) v1 (0 + k) ([] ++ (xs.take k).map (Value.int .i64)) rfl ?_ _ 1 [.int .i64 x] rfl ?_ (one_ints [x]) (by unfold maxLen; omega) (by omega) ?_ ?_
       · first | exact o1 | exact o1.alloc _
       · first | exact sl_one (World.cell?_alloc_new w1 _ _ 0) | exact sl_one (chg_cell c1 ((cell_of_heap (heap_two_0 w _ _)).trans rfl) (by simp [Value.ownBlock])) | exact sl_one (chg_cell c1 ((cell_of_heap (heap_two_1 w _ _)).trans rfl) (by simp [Value.ownBlock]))
       · have := c1.size; simp at this ⊢; omega
       intro v2 w2 o2 c2 l2
       have b2 : Bl w w2 := by first | exact bl_own b1 o1 c2 | exact bl_own (bl_alloc b1 _) (o1.alloc _) c2)
    | (refine step_cat _ rfl (.tmp 14) (.tmp 17) _ rfl w.heap.size 3 i0 _ 1 8 Try.underlying24 hi hz0 hz1 hz2 rfl (by decide) v2 (0 + k + 1) _ rfl o2 _ (xs.length - k) ((xs.drop k).map (Value.int .i64)) rfl ?_ (one_ints _) (by unfold maxLen; omega) (by omega) ?_ ?_
       · exact (HV.out.bl b2).drop k hk
       · exact b2.size
       intro v3 w3 o3 c3 l3))
  all_goals
    have O3 := Lib.hid o3
    have B3 := Lib.hid (bl_own b2 o2 c3)
    clear o1 o2 c1 c2 l1 l2 o3 c3 l3 b1 b2
    go_wp2
    all_goals
      go_ret
      exact ⟨v3, rfl, own_ints O3.out (by simp [ins]) (by rw [ins_len _ _ _ hk]; omega), B3.out⟩

end Go.Proofs.Ythomhekbikpcfaa
