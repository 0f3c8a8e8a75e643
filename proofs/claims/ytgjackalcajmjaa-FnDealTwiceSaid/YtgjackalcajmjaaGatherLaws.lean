/- FnDealGather, FnGatherBoth and FnDealTwice return true: the walks of the laws. -/
import Derived.Test.YtgjackalcajmjaaGatherRing
import Derived.Test.YtgjackalcajmjaaDealGather
import Derived.Test.YtgjackalcajmjaaJoin
import Derived.Test.YtgjackalcajmjaaJoinRing
import Derived.Test.YtgjackalcajmjaaOrder
namespace Go.Proofs.Ytgjackalcajmjaa
open Go.RowKit

set_option maxHeartbeats 1000000 in
theorem dealGather_any (k : Int) (u : Value) (xs : List Int) (w : World) (hu : Ints w u xs) (hl : xs.length * 8 ≤ 140737488351232) :
    Calls Try.prog 3 #[u, .int .i64 k] w fun e w' => e = .returned (.bool true) ∧ Bl w w' := by
  have HU := Lib.hid hu
  clear hu
  have hh := handsOf_bd k
  obtain ⟨hh1, hh2⟩ := hh
  have hL : (dealOf xs k).length = handsOf k := deal_len _ _
  have hS : sumLen (dealOf xs k) = xs.length := dealOf_sum xs k
  have HG : Hid (gather (dealOf xs k) = xs) := deal_gather _ hh1 xs
  have hs1 : sumLen (dealOf xs k) ≤ 17592186043904 := by omega
  have hs2 : (dealOf xs k).length ≤ 17592186043904 := by omega
  clear hL hS
  go_enter Try.func3, Try.ntmps3
  go_wp2_with fail
  refine (DealList_impl u xs k _ HU.out (by omega)).mono ?_
  rintro e w1 ⟨v1, us1, rfl, o1, b1⟩
  have O1 := Lib.hid (OwnSS.rowss o1)
  have B1 := Lib.hid b1
  clear o1 b1
  go_wp2_with fail
  refine (GatherList_impl v1 _ _ O1.out hs1 hs2).mono ?_
  rintro e w2 ⟨v2, rfl, o2, b2⟩
  rw [HG.out] at o2
  have O2 := Lib.hid (OwnI.ints o2)
  have B2 := Lib.hid (bl_trans B1.out b2)
  clear o2 b2
  go_wp2_with fail
  refine (same_true v2 u _ _ O2.out (HU.out.bl B2.out)).mono ?_
  rintro e w3 ⟨rfl, b3⟩
  have B3 := Lib.hid (bl_trans B2.out b3)
  clear b3
  go_wp2_with fail
  refine (DealRing_impl u xs k _ (HU.out.bl B3.out) (by omega)).mono ?_
  rintro e w4 ⟨v4, us4, rfl, o4, b4⟩
  have O4 := Lib.hid (OwnSS.rowss o4)
  have B4 := Lib.hid (bl_trans B3.out b4)
  clear o4 b4
  go_wp2_with fail
  refine (GatherRing_impl v4 _ _ O4.out hs1 hs2).mono ?_
  rintro e w5 ⟨v5, rfl, o5, b5⟩
  rw [HG.out] at o5
  have O5 := Lib.hid (OwnI.ints o5)
  have B5 := Lib.hid (bl_trans B4.out b5)
  clear o5 b5
  go_wp2_with fail
  refine (same_true v5 u _ _ O5.out (HU.out.bl B5.out)).mono ?_
  rintro e w6 ⟨rfl, b6⟩
  have B6 := Lib.hid (bl_trans B5.out b6)
  clear b6
  go_wp2
  go_ret
  exact ⟨rfl, B6.out⟩

/-- Empty rows between the others. -/
def spread (rows : List (List Int)) : List (List Int) := [] :: (rows.map fun r => [r, []]).flatten
theorem spread_take (rows : List (List Int)) (k : Nat) (hk : k < rows.length) : spread (rows.take (k + 1)) = spread (rows.take k) ++ [rows[k], []] := by
  unfold spread
  rw [List.take_succ_eq_append_getElem hk, List.map_append, List.flatten_append]
  simp
theorem spread_len (rows : List (List Int)) : (spread rows).length = 2 * rows.length + 1 := by
  unfold spread
  induction rows with
  | nil => rfl
  | cons r rows ih => simp at ih ⊢; omega
theorem spread_sum (rows : List (List Int)) : sumLen (spread rows) = sumLen rows := by
  unfold spread sumLen
  induction rows with
  | nil => rfl
  | cons r rows ih => simp at ih ⊢; omega
theorem gather_spread (rows : List (List Int)) : gather (spread rows) = gather rows := by
  have hc : ∀ i, col i (spread rows) = col i rows := fun i => by
    unfold spread col
    rw [List.filterMap_cons]
    simp only [List.getElem?_nil]
    induction rows with
    | nil => rfl
    | cons r rows ih =>
      rw [List.map_cons, List.flatten_cons, List.filterMap_append, List.filterMap_cons (l := rows)]
      rw [ih]
      cases h : r[i]? <;> simp [h]
  have hl1 : longest (spread rows) ≤ max (longest (spread rows)) (longest rows) := Nat.le_max_left _ _
  have hl2 : longest rows ≤ max (longest (spread rows)) (longest rows) := Nat.le_max_right _ _
  rw [← gatherTo_eq _ hl1, ← gatherTo_eq _ hl2]
  unfold gatherTo
  rw [List.map_congr_left (fun i _ => hc i)]

end Go.Proofs.Ytgjackalcajmjaa
