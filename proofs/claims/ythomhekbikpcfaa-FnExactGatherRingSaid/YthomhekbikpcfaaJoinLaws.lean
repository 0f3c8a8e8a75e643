/- FnJoinBoth returns true: the walk of the law. -/
import Derived.Test.YthomhekbikpcfaaJoin
import Derived.Test.YthomhekbikpcfaaJoinRing
import Derived.Test.YthomhekbikpcfaaOrder
namespace Go.Proofs.Ythomhekbikpcfaa
open Go.RowKit


/-- Parts of a slice of slices. -/
theorem Rowss.take {w : World} {A : Option Addr} {n c : Nat} {rows : List (List Int)} (h : Rowss w (.slice A n c) rows) (k : Nat) (hk : k ≤ n) : Rowss w (.slice A k c) (rows.take k) := by
  obtain ⟨us, ⟨h1, A', c', e, h2, h3, h4⟩, h5⟩ := h
  injection e with e1 e2 e3
  subst e1 e2 e3
  have hl : (rows.take k).length = k := by rw [List.length_take]; omega
  refine ⟨us.take k, ⟨by rw [hl, List.length_take]; omega, A, c, by rw [hl], by rw [hl]; omega, h3, fun h0 => ?_⟩, fun j hj => ?_⟩
  · rw [hl] at h0
    obtain ⟨b, off, e, h6⟩ := h4 (by omega)
    refine ⟨b, off, e, fun j u hu => h6 j u ?_⟩
    rw [List.getElem?_take] at hu
    split at hu
    · exact hu
    · cases hu
  · rw [hl] at hj
    obtain ⟨u, hu, hi⟩ := h5 j (by omega)
    refine ⟨u, by rw [List.getElem?_take, if_pos hj]; exact hu, ?_⟩
    rw [List.getElem_take]; exact hi
theorem Rowss.drop {w : World} {A : Option Addr} {n c : Nat} {rows : List (List Int)} (h : Rowss w (.slice A n c) rows) (k : Nat) (hk : k ≤ n) : Rowss w (.slice (if c = k then A else A.map (·.add k)) (n - k) (c - k)) (rows.drop k) := by
  obtain ⟨us, ⟨h1, A', c', e, h2, h3, h4⟩, h5⟩ := h
  injection e with e1 e2 e3
  subst e1 e2 e3
  have hl : (rows.drop k).length = rows.length - k := by rw [List.length_drop]
  refine ⟨us.drop k, ⟨by rw [hl, List.length_drop]; omega, _, _, by rw [hl], by rw [hl]; omega, by omega, fun h0 => ?_⟩, fun j hj => ?_⟩
  · rw [hl] at h0
    obtain ⟨b, off, e, h6⟩ := h4 (by omega)
    subst e
    refine ⟨b, off + k, ?_, fun j u hu => ?_⟩
    · rw [if_neg (by omega)]
      simp [Addr.add]
    · rw [List.getElem?_drop] at hu
      have := h6 (k + j) u hu
      rw [Nat.add_assoc]; exact this
  · rw [hl] at hj
    obtain ⟨u, hu, hi⟩ := h5 (k + j) (by omega)
    refine ⟨u, by rw [List.getElem?_drop]; exact hu, ?_⟩
    rw [List.getElem_drop]; exact hi
/-- A slice of two slices. -/
theorem rowss_two {w : World} {g : Nat} {u v : Value} {xs ys : List Int} (h0 : w.cell? ⟨g, 0, none⟩ = some u) (h1 : w.cell? ⟨g, 1, none⟩ = some v) (hu : Ints w u xs) (hv : Ints w v ys) : Rowss w (.slice (some ⟨g, 0, none⟩) 2 2) [xs, ys] := by
  refine ⟨[u, v], ⟨rfl, _, _, rfl, Nat.le_refl _, by unfold maxLen; decide, fun _ => ⟨g, 0, rfl, fun j y hy => ?_⟩⟩, fun k hk => ?_⟩
  · match j with
    | 0 => simp at hy; subst hy; exact h0
    | 1 => simp at hy; subst hy; exact h1
    | j + 2 => simp at hy
  · match k with
    | 0 => exact ⟨u, rfl, hu⟩
    | 1 => exact ⟨v, rfl, hv⟩
    | k + 2 => exact absurd hk (by simp)

theorem ints_val {w : World} {v : Value} {xs : List Int} (h : Ints w v xs) : ∃ n A c, v = Value.slice A n c := by
  obtain ⟨A, c, h, _⟩ := h.open; exact ⟨_, A, c, h⟩


end Go.Proofs.Ythomhekbikpcfaa
