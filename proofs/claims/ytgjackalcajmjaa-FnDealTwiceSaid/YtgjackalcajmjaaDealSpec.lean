/- The walk of DealList's reference. -/
import Derived.Test.YtgjackalcajmjaaDealList
namespace Go.Proofs.Ytgjackalcajmjaa
open Go.RowKit

set_option maxHeartbeats 400000 in
theorem Hands_any (k : Int) (w : World) : Calls Try.prog 17 #[.int .i64 k] w fun e w' => e = .returned (.int .i64 (handsOf k)) ∧ w = w' := by
  have h := ix_lt k (n := 50) (by omega)
  have H : Hid (handsOf k = 1 + ix k 50) := rfl
  go_enter Try.func17, Try.ntmps17
  go_wp2_with fail
  refine (At_ix k 50 _ (by omega) (by omega)).mono ?_
  rintro e w1 ⟨rfl, rfl⟩
  go_wp2
  go_ret
  exact ⟨by rw [H.out]; go_num, rfl⟩

theorem dealOf_sum (xs : List Int) (k : Int) : sumLen (dealOf xs k) = xs.length := deal_sum _ (handsOf_bd k).1 xs

/-- One row is another one now. -/
theorem OwnSS.put {w w1 : World} {base g c h n : Nat} {rows : List (List Int)} {us : List Value} {u u' : Value} {row : List Int} (H : OwnSS w base (.slice (some ⟨g, 0, none⟩) n c) rows us) (hu : us[h]? = some u) (hc : Chg (fun k => u.ownBlock = some k) w w1) (ho : OwnI w1 base u' row)
    (hl : ∀ x, u'.ownBlock = some x → u.ownBlock = some x ∨ w.heap.size ≤ x) : OwnSS (w1.setCell ⟨g, h, none⟩ u') base (.slice (some ⟨g, 0, none⟩) n c) (rows.set h row) (us.set h u') := by
  have hus : us.length = rows.length := by have := H.own.1; omega
  have hhl := (List.getElem?_eq_some_iff.1 hu).1
  obtain ⟨_, _, e0, _⟩ := own_open H.own
  injection e0 with _ e0 _
  subst e0
  obtain ⟨u0, eu0, hu0⟩ := H.row h (by omega)
  obtain rfl : u0 = u := by rw [hu] at eu0; exact (Option.some.inj eu0).symm
  have hmem : ∀ x ∈ us, ∀ y, x.ownBlock = some y → y ≠ g := by
    intro x hx y hy e
    obtain ⟨i, hi⟩ := List.mem_iff_getElem?.1 hx
    obtain ⟨u1, e1, h1⟩ := H.row i (by have := (List.getElem?_eq_some_iff.1 hi).1; omega)
    obtain rfl : u1 = x := by rw [hi] at e1; exact (Option.some.inj e1).symm
    exact own_ne h1 H.own (by decide) y hy (by simp [Value.ownBlock, e])
  have hout : w1.ownsRow base 22 1 (.slice (some ⟨g, 0, none⟩) rows.length c) rows.length us := own_chg H.own hc (fun x hx hx' => own_ne hu0 H.own (by decide) x hx' hx)
  have hkeep : ∀ {x : Value} {r : List Int}, OwnI w1 base x r → (∀ y, x.ownBlock = some y → y ≠ g) → OwnI (w1.setCell ⟨g, h, none⟩ u') base x r := fun hx hne => own_keep hx fun y hy => Below.heap_setCell _ _ _ _ (fun e => hne y hy e)
  have hu'g : ∀ y, u'.ownBlock = some y → y ≠ g := by
    intro y hy e
    subst e
    exact own_ne ho hout (by decide) y hy rfl
  refine ⟨?_, fun k hk => ?_, fun i j a b hij hi hj x hx hx' => ?_⟩
  · rw [List.length_set]; exact own_set hout u'
  · rw [List.length_set] at hk
    by_cases hkh : h = k
    · subst hkh
      refine ⟨u', by rw [List.getElem?_set, if_pos rfl, if_pos hhl], ?_⟩
      rw [List.getElem_set, if_pos rfl]
      exact hkeep ho hu'g
    · obtain ⟨y, e, hy⟩ := H.row k hk
      refine ⟨y, by rw [List.getElem?_set, if_neg hkh]; exact e, ?_⟩
      rw [List.getElem_set, if_neg hkh]
      refine hkeep (own_chg hy hc (fun x hx hx' => ?_)) (hmem y (List.mem_of_getElem? e))
      rcases (by omega : k < h ∨ h < k) with h1 | h1
      · exact H.sep k h y u0 h1 e hu x hx hx'
      · exact H.sep h k u0 y h1 hu e x hx' hx
  · rw [List.getElem?_set] at hi hj
    have hne : ∀ i a, h ≠ i → us[i]? = some a → ∀ x, a.ownBlock = some x → u'.ownBlock ≠ some x := by
      intro i a hhi hia x hx hx'
      rcases hl x hx' with h1 | h1
      · rcases (by omega : i < h ∨ h < i) with h2 | h2
        · exact H.sep i h a u0 h2 hia hu x hx h1
        · exact H.sep h i u0 a h2 hu hia x h1 hx
      · have := (H.lt x (.inr ⟨a, List.mem_of_getElem? hia, hx⟩)).2
        omega
    by_cases h1 : h = i
    · subst h1
      rw [if_pos rfl, if_pos hhl] at hi
      rw [if_neg (by omega)] at hj
      obtain rfl : u' = a := Option.some.inj hi
      exact hne j b (by omega) hj x hx' hx
    · rw [if_neg h1] at hi
      by_cases h2 : h = j
      · subst h2
        rw [if_pos rfl, if_pos hhl] at hj
        obtain rfl : u' = b := Option.some.inj hj
        exact hne i a h1 hi x hx hx'
      · rw [if_neg h2] at hj
        exact H.sep i j a b hij hi hj x hx hx'



end Go.Proofs.Ytgjackalcajmjaa
