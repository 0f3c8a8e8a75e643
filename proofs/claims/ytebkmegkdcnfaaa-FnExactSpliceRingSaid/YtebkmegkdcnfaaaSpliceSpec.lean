/- The walk of SpliceList's reference. -/
import Derived.Test.YtebkmegkdcnfaaaSplicePure
namespace Go.Proofs.Ytebkmegkdcnfaaa
open Go.RowKit

theorem heap_three_0 (w : World) (a b c : Obj) : (((w.alloc a).alloc b).alloc c).drew.heap[w.heap.size]? = some a :=
  (Below.heap_alloc ((w.alloc a).alloc b) c _ (by simp; omega)).trans ((Below.heap_alloc (w.alloc a) b _ (by simp)).trans (heap_alloc_new w a))
theorem heap_three_1 (w : World) (a b c : Obj) : (((w.alloc a).alloc b).alloc c).drew.heap[w.heap.size + 1]? = some b := by
  have h := heap_alloc_new (w.alloc a) b
  rw [World.size_alloc] at h
  exact (Below.heap_alloc ((w.alloc a).alloc b) c _ (by simp)).trans h
theorem heap_three_2 (w : World) (a b c : Obj) : (((w.alloc a).alloc b).alloc c).drew.heap[w.heap.size + 1 + 1]? = some c := by
  have h := heap_alloc_new ((w.alloc a).alloc b) c
  rwa [World.size_alloc, World.size_alloc] at h

theorem Ints.drop1 {w : World} {b off n c : Nat} {xs : List Int} (h : Ints w (.slice (some ⟨b, off, none⟩) n c) xs) (k : Nat) (hk : 1 + k ≤ n) :
    Sl w 1 (.slice (if c = 1 + k then some ⟨b, off, none⟩ else some ⟨b, off + (1 + k), none⟩) (n - (1 + k)) (c - (1 + k))) (n - (1 + k)) ((xs.drop (1 + k)).map (Value.int .i64)) := by
  have h1 := h.drop (1 + k) hk
  have h2 : (⟨b, off, none⟩ : Addr).add (1 + k) = ⟨b, off + (1 + k), none⟩ := by unfold Addr.add; rw [if_neg (by omega)]
  simp only [Option.map_some, h2] at h1
  exact h1
theorem Ints.mid1 {w : World} {b off n c : Nat} {xs : List Int} (h : Ints w (.slice (some ⟨b, off, none⟩) n c) xs) (k : Nat) (hk : 1 + k ≤ n) :
    Sl w 1 (.slice (if c = 1 then some ⟨b, off, none⟩ else some ⟨b, off + 1, none⟩) k (c - 1)) k (((xs.drop 1).take k).map (Value.int .i64)) := h.mid k hk
theorem keep_empty {S : Nat → Prop} {w w' : World} {g : Nat} {o : Obj} (c : Chg S w w') (h : w.heap[g]? = some o) (hs : ¬ S g) : w'.heap[g]? = some o :=
  (c.block g (by rcases Nat.lt_or_ge g w.heap.size with h1 | h1; exact h1; rw [Array.getElem?_eq_none h1] at h; simp at h) hs).trans h
theorem cat_bl {w2 W w3 : World} {g : Nat} (hW : Bl w2 W) (c3 : Chg (fun k => (Value.slice (some ⟨g, 0, none⟩) 0 0).ownBlock = some k) W w3) (hg : w2.heap.size ≤ g) : Bl w2 w3 :=
  bl_chg hW c3 (fun i hi => by simp [Value.ownBlock] at hi; omega)
theorem cat_hs {w2 W : World} {g : Nat} {v3 : Value} (hW : Bl w2 W) (l3 : ∀ g', v3.ownBlock = some g' → (Value.slice (some ⟨g, 0, none⟩) 0 0).ownBlock = some g' ∨ W.heap.size ≤ g') (hg : w2.heap.size ≤ g) :
    ∀ i, v3.ownBlock = some i → w2.heap.size ≤ i := fun i hi => by
  rcases l3 i hi with h | h
  · simp [Value.ownBlock] at h; omega
  · exact Nat.le_trans hW.size h
theorem slice_ne {g g' : Nat} (h : g ≠ g') : ¬ (Value.slice (some ⟨g, 0, none⟩) 0 0).ownBlock = some g' := by simp [Value.ownBlock]; exact h
/-- The last part: what was taken goes into the empty slice, and shares nothing with the other result. -/
theorem splice_end {w w4 w5 : World} {v4 v5 : Value} {n : Nat} {g : Nat} {cs cs5 : List Value} {n5 : Nat} {L T : List Int} (hb : Bl w w4) (hn : 0 < n) (o4 : w4.ownsRow w.heap.size 3 1 v4 n cs)
    (h31 : w4.heap[g]? = some (.cells #[] 3 (0, 0))) (hg : w.heap.size ≤ g) (o5 : w5.ownsRow w.heap.size 3 1 v5 n5 cs5)
    (c5 : Chg (fun k => (Value.slice (some ⟨g, 0, none⟩) 0 0).ownBlock = some k) w4 w5) (l5 : ∀ g', v5.ownBlock = some g' → (Value.slice (some ⟨g, 0, none⟩) 0 0).ownBlock = some g' ∨ w4.heap.size ≤ g')
    (hL : L.map (Value.int .i64) = cs) (hLn : L.length = n) (hT : T.map (Value.int .i64) = cs5) (hTn : T.length = n5) :
    OwnI w5 w.heap.size v4 L ∧ OwnI w5 w.heap.size v5 T ∧ (∀ g, v4.ownBlock = some g → ¬ v5.ownBlock = some g) ∧ Bl w w5 := by
  refine ⟨own_ints (own_chg o4 c5 fun g' h1 h2 => ?_) hL hLn, own_ints o5 hT hTn, fun g' h1 h2 => ?_, cat_bl hb c5 hg⟩
  · simp [Value.ownBlock] at h2
    subst h2
    exact own_ne_empty o4 hn h31 h1
  · rcases l5 g' h2 with h | h
    · simp [Value.ownBlock] at h
      subst h
      exact own_ne_empty o4 hn h31 h1
    · have := (own_lt o4 g' h1).2
      omega

set_option maxRecDepth 100000 in
set_option maxHeartbeats 20000000 in
theorem SpliceList_spec (v : Value) (xs : List Int) (i k : Int) (w : World) (hv : Ints w v xs) (hl : xs.length ≤ 17592186043904) :
    Calls Try.prog 36 #[v, .int .i64 i, .int .i64 k] w (New2 w (leftOf xs i k) (takenOf xs i k)) := by
  have HV := Lib.hid hv
  clear hv
  go_enter Try.func36, Try.ntmps36
  go_wp2_with fail
  refine (TurnList_spec v xs i _ HV.out hl).mono ?_
  rintro e w1 ⟨v1, rfl, o1, b1⟩
  have HLE : Hid (leftOf xs i k = spLeft (turnOf xs i) (ix k xs.length)) := rfl
  have HTA : Hid (takenOf xs i k = spTaken (turnOf xs i) (ix k xs.length)) := rfl
  have hyl := turnOf_len xs i
  generalize turnOf xs i = ys at *
  have O1 := Lib.hid o1
  have B1 := Lib.hid b1
  obtain ⟨A1, c1, rfl, hc1, hm1, hx1⟩ := own_open o1
  clear hx1
  unfold maxLen at hm1
  have O1' : Hid (Ints w1 (.slice A1 xs.length c1) ys) := by have := OwnI.ints o1; rw [hyl] at this; exact this
  rw [hyl] at hc1 ⊢
  have HYL := Lib.hid hyl
  clear o1 b1 hyl O1
  rcases Nat.eq_zero_or_pos xs.length with h0 | h0
  · obtain rfl : xs = [] := List.eq_nil_of_length_eq_zero h0
    obtain rfl : ys = [] := List.eq_nil_of_length_eq_zero HYL.out
    simp only [List.length_nil] at *
    go_wp2
    go_ret2
    refine ⟨_, _, rfl, ?_, ?_, ?_, bl_alloc (bl_alloc B1.out _) _⟩
    · rw [leftOf_nil]; exact own_base ((own_empty w1 3 1).alloc _) B1.out.size
    · rw [takenOf_nil]
      have := own_empty (w1.alloc (.cells #[] 3)) 3 1
      rw [World.size_alloc] at this
      exact own_base this (by have := B1.out.size; omega)
    · intro g hg hg'
      simp [Value.ownBlock] at hg hg'
      omega
  · have hn0 : ((xs.length : Int) == 0) = false := by rw [beq_eq_false_iff_ne]; omega
    have hk := ix_lt k h0
    go_wp2_with fail
    refine (At_ix k xs.length _ h0 (by omega)).mono ?_
    rintro e w2 ⟨rfl, rfl⟩
    generalize ix k xs.length = K at *
    obtain ⟨i0, hi, hz0, hz1, hz2⟩ := info_parts intInfo
    obtain ⟨A', c', e0, _, _, hv⟩ := O1'.out.open
    injection e0 with e1 e2 e3
    subst e1 e3
    have hy0 : 0 < ys.length := by rw [HYL.out]; exact h0
    obtain ⟨b, off, rfl, r0⟩ := hv 0 hy0
    simp only [Nat.add_zero] at r0
    have HS1 : Hid (∀ K, spLeft ys K = [ys[0]] ++ ys.drop (1 + K)) := fun K => by
      unfold spLeft
      cases ys with
      | nil => simp at hy0
      | cons y ys => rfl
    generalize ys[0] = y0 at *
    have hk1 : 1 + K ≤ xs.length := by omega
    have hk2 : 1 + K ≤ c1 := by omega
    have hB := B1.out.size
    have hlb : b < w2.heap.size := World.block_lt_of_cell? _ _ r0
    clear hv e2 hy0
    go_wp2
    have hw1 : IntKind.i64.wrap ((1 : Int) + (K : Int)) = (1 : Int) + (K : Int) := IntWalk.i64_in _ (by omega)
    have hi1 : (1 : Int) + (K : Int) ≤ (xs.length : Int) := by omega
    have hK0 : (0 : Int) ≤ 1 + (K : Int) := by omega
    have hKn : ((1 : Int) + (K : Int)).toNat = 1 + K := by omega
    have hK3 : (1 : Int) ≤ 1 + (K : Int) := by omega
    have hK2 : (1 : Int) + (K : Int) ≤ (c1 : Int) := by omega
    have HLM : Hid ((leftOf xs i k).map (Value.int .i64) = ([] ++ [.int .i64 y0]) ++ (ys.drop (1 + K)).map (Value.int .i64)) := by
      show _ = _
      rw [HLE.out, HS1.out]; simp
    have HLN : Hid ((leftOf xs i k).length = 0 + 1 + (xs.length - (1 + K))) := by
      show _ = _
      rw [HLE.out, HS1.out]; simp [HYL.out]; omega
    have HTM : Hid ((takenOf xs i k).map (Value.int .i64) = [] ++ ((ys.drop 1).take K).map (Value.int .i64)) := by
      show _ = _
      rw [HTA.out]; rfl
    have HTN : Hid ((takenOf xs i k).length = 0 + K) := by
      show _ = _
      rw [HTA.out]; unfold spTaken; simp [HYL.out]; omega
    have T2 : ∀ a b, Bl w2 ((w2.alloc a).alloc b).drew := fun a b => bl_drew (bl_alloc (bl_alloc (bl_refl w2) _) _)
    have T3 : ∀ a b c, Bl w2 (((w2.alloc a).alloc b).alloc c).drew := fun a b c => bl_drew (bl_alloc (bl_alloc (bl_alloc (bl_refl w2) _) _) _)
    have HDR := Lib.hid (Ints.drop1 O1'.out K hk1)
    have HMI := Lib.hid (Ints.mid1 O1'.out K hk1)
    clear HLE HTA HS1 O1' HYL HV
    go_region_law (first
      | (refine step_cat _ rfl (.tmp 20) (.tmp 24) _ rfl w.heap.size 3 i0 _ 1 8 Try.underlying23 hi hz0 hz1 hz2 rfl (by decide) _ 0 [] rfl ?_ _ 1 [.int .i64 y0] rfl ?_ (one_ints [y0]) (by unfold maxLen; omega) (by omega) ?_ ?_
         · first | exact own_empty_at (heap_two_0 w2 _ _) (by omega) | exact own_empty_at (heap_two_1 w2 _ _) (by omega) | exact own_empty_at (heap_three_0 w2 _ _ _) (by omega) | exact own_empty_at (heap_three_1 w2 _ _ _) (by omega) | exact own_empty_at (heap_three_2 w2 _ _ _) (by omega)
         · first | exact sl_one ((cell_of_heap (heap_two_0 w2 _ _)).trans rfl) | exact sl_one ((cell_of_heap (heap_two_1 w2 _ _)).trans rfl) | exact sl_one ((cell_of_heap (heap_three_0 w2 _ _ _)).trans rfl) | exact sl_one ((cell_of_heap (heap_three_1 w2 _ _ _)).trans rfl) | exact sl_one ((cell_of_heap (heap_three_2 w2 _ _ _)).trans rfl)
         · simp; omega
         intro v3 w3 o3 c3 l3
         have b3 : Bl w2 w3 := by first | exact cat_bl (T2 _ _) c3 (by omega) | exact cat_bl (T3 _ _ _) c3 (by omega)
         have hs3 : ∀ i, v3.ownBlock = some i → w2.heap.size ≤ i := by first | exact cat_hs (T2 _ _) l3 (by omega) | exact cat_hs (T3 _ _ _) l3 (by omega)
         clear l3)
      | (refine step_cat _ rfl (.tmp 25) (.tmp 29) _ rfl w.heap.size 3 i0 _ 1 8 Try.underlying23 hi hz0 hz1 hz2 rfl (by decide) v3 (0 + 1) ([] ++ [.int .i64 y0]) rfl ?_ (.slice (if c1 = 1 + K then some ⟨b, off, none⟩ else some ⟨b, off + (1 + K), none⟩) (xs.length - (1 + K)) (c1 - (1 + K))) (xs.length - (1 + K)) ((ys.drop (1 + K)).map (Value.int .i64)) rfl ?_ (one_ints _) (by unfold maxLen; omega) (by omega) ?_ ?_
         · first | exact o3 | exact o3.alloc _
         · first | exact Sl.bl HDR.out b3 | exact Sl.bl HDR.out (bl_alloc b3 _)
         · first | exact Nat.le_trans hB b3.size | exact Nat.le_trans hB (bl_alloc b3 _).size
         intro v4 w4 o4 c4 l4
         have b4 : Bl w w4 := by first | exact bl_own (bl_trans B1.out b3) o3 c4 | exact bl_own (bl_trans B1.out (bl_alloc b3 _)) (o3.alloc _) c4
         have b24 : Bl w2 w4 := by first | exact bl_chg b3 c4 (fun i hi => (hs3 i hi)) | exact bl_chg (bl_alloc b3 _) c4 (fun i hi => (hs3 i hi))
         clear l4)
      | (first
         | (have h31 := heap_alloc_new w4 (.cells #[] 3)
            refine step_cat _ rfl (.tmp 31) (.tmp 35) _ rfl w.heap.size 3 i0 _ 1 8 Try.underlying23 hi hz0 hz1 hz2 rfl (by decide) _ 0 [] rfl (own_empty_at h31 (by have := b4.size; omega)) (.slice (if c1 = 1 then some ⟨b, off, none⟩ else some ⟨b, off + 1, none⟩) K (c1 - 1)) K (((ys.drop 1).take K).map (Value.int .i64)) rfl (Sl.bl HMI.out (bl_alloc b24 _)) (one_ints _) (by unfold maxLen; omega) (by omega) (by have := b4.size; simp; omega) ?_
            intro v5 w5 o5 c5 l5
            have HF := Lib.hid (splice_end (bl_alloc b4 _) (by omega) (o4.alloc _) h31 (by have := b4.size; omega) o5 c5 l5 HLM.out HLN.out HTM.out HTN.out))
         | (have h31 := keep_empty c4 (heap_alloc_new w3 (.cells #[] 3)) (fun h => by have := (own_lt o3 _ h).2; omega)
            refine step_cat _ rfl (.tmp 31) (.tmp 35) _ rfl w.heap.size 3 i0 _ 1 8 Try.underlying23 hi hz0 hz1 hz2 rfl (by decide) _ 0 [] rfl (own_empty_at h31 (by have := b3.size; omega)) (.slice (if c1 = 1 then some ⟨b, off, none⟩ else some ⟨b, off + 1, none⟩) K (c1 - 1)) K (((ys.drop 1).take K).map (Value.int .i64)) rfl (Sl.bl HMI.out b24) (one_ints _) (by unfold maxLen; omega) (by omega) b4.size ?_
            intro v5 w5 o5 c5 l5
            have HF := Lib.hid (splice_end b4 (by omega) o4 h31 (by have := b3.size; omega) o5 c5 l5 HLM.out HLN.out HTM.out HTN.out))
         | (have h31 : w3.heap[w2.heap.size]? = some (.cells #[] 3 (0, 0)) := by
              first | exact keep_empty c3 (heap_three_0 w2 _ _ _) (slice_ne (by omega)) | exact keep_empty c3 (heap_two_0 w2 _ _) (slice_ne (by omega))
            replace h31 := keep_empty c4 h31 (fun h => own_ne_empty o3 (by omega) h31 h)
            refine step_cat _ rfl (.tmp 31) (.tmp 35) _ rfl w.heap.size 3 i0 _ 1 8 Try.underlying23 hi hz0 hz1 hz2 rfl (by decide) _ 0 [] rfl (own_empty_at h31 (by omega)) (.slice (if c1 = 1 then some ⟨b, off, none⟩ else some ⟨b, off + 1, none⟩) K (c1 - 1)) K (((ys.drop 1).take K).map (Value.int .i64)) rfl (Sl.bl HMI.out b24) (one_ints _) (by unfold maxLen; omega) (by omega) b4.size ?_
            intro v5 w5 o5 c5 l5
            have HF := Lib.hid (splice_end b4 (by omega) o4 h31 (by omega) o5 c5 l5 HLM.out HLN.out HTM.out HTN.out))
         | (have h31 : w3.heap[w2.heap.size + 1]? = some (.cells #[] 3 (0, 0)) := by
              exact keep_empty c3 (heap_three_1 w2 _ _ _) (slice_ne (by omega))
            replace h31 := keep_empty c4 h31 (fun h => own_ne_empty o3 (by omega) h31 h)
            refine step_cat _ rfl (.tmp 31) (.tmp 35) _ rfl w.heap.size 3 i0 _ 1 8 Try.underlying23 hi hz0 hz1 hz2 rfl (by decide) _ 0 [] rfl (own_empty_at h31 (by omega)) (.slice (if c1 = 1 then some ⟨b, off, none⟩ else some ⟨b, off + 1, none⟩) K (c1 - 1)) K (((ys.drop 1).take K).map (Value.int .i64)) rfl (Sl.bl HMI.out b24) (one_ints _) (by unfold maxLen; omega) (by omega) b4.size ?_
            intro v5 w5 o5 c5 l5
            have HF := Lib.hid (splice_end b4 (by omega) o4 h31 (by omega) o5 c5 l5 HLM.out HLN.out HTM.out HTN.out))
         | (have h31 : w3.heap[w2.heap.size + 1 + 1]? = some (.cells #[] 3 (0, 0)) := by
              exact keep_empty c3 (heap_three_2 w2 _ _ _) (slice_ne (by omega))
            replace h31 := keep_empty c4 h31 (fun h => own_ne_empty o3 (by omega) h31 h)
            refine step_cat _ rfl (.tmp 31) (.tmp 35) _ rfl w.heap.size 3 i0 _ 1 8 Try.underlying23 hi hz0 hz1 hz2 rfl (by decide) _ 0 [] rfl (own_empty_at h31 (by omega)) (.slice (if c1 = 1 then some ⟨b, off, none⟩ else some ⟨b, off + 1, none⟩) K (c1 - 1)) K (((ys.drop 1).take K).map (Value.int .i64)) rfl (Sl.bl HMI.out b24) (one_ints _) (by unfold maxLen; omega) (by omega) b4.size ?_
            intro v5 w5 o5 c5 l5
            have HF := Lib.hid (splice_end b4 (by omega) o4 h31 (by omega) o5 c5 l5 HLM.out HLN.out HTM.out HTN.out))
         clear o4 c4 o5 c5 l5 c3 o3))
    all_goals go_wp2
    all_goals
      go_ret2
      exact ⟨_, _, rfl, HF.out.1, HF.out.2.1, HF.out.2.2.1, HF.out.2.2.2⟩

end Go.Proofs.Ytebkmegkdcnfaaa
