/- A slice of one's own without its first element: v[1:]. -/
import Derived.Test.YthgghafndabpfaaIntS
namespace Go.Proofs.Ythgghafndabpfaa
open Go.RowKit

/-- A slice of ints of one's own, without the one ahead of it. -/
def OwnX (w : World) (base : Nat) (v : Value) (xs : List Int) : Prop :=
  ∃ g c off y, v = .slice (some ⟨g, off, none⟩) xs.length c ∧ (0 < xs.length → off = 1) ∧ OwnI w base (.slice (some ⟨g, 0, none⟩) (xs.length + 1) (c + 1)) (y :: xs)

section
variable {w w' : World} {base : Nat} {v : Value} {xs : List Int}

theorem OwnX.ints (h : OwnX w base v xs) : Ints w v xs := by
  obtain ⟨g, c, off, y, rfl, ho, h⟩ := h
  obtain ⟨h1, A, c', e, h2, h3, h4⟩ := Sl.of_own h
  injection e with e1 e2 e3
  subst e1 e3
  refine ⟨by simp, _, _, rfl, by simp at h2; omega, by omega, fun h0 => ⟨g, 1, by rw [ho h0], fun j u hj => ?_⟩⟩
  obtain ⟨b, of, e, h5⟩ := h4 (by simp)
  injection e with e
  injection e with e1 e2
  subst e1 e2
  have := h5 (j + 1) u (by simpa using hj)
  rw [show 1 + j = 0 + (j + 1) by omega]
  exact this
theorem OwnX.bl (h : OwnX w base v xs) (hb : Bl w w') : OwnX w' base v xs := by
  obtain ⟨g, c, off, y, rfl, ho, h⟩ := h
  exact ⟨g, c, off, y, rfl, ho, own_bl h hb⟩
theorem OwnX.lt (h : OwnX w base v xs) : ∀ g, v.ownBlock = some g → base ≤ g ∧ g < w.heap.size := by
  obtain ⟨g, c, off, y, rfl, ho, h⟩ := h
  exact fun g' hg => own_lt h g' hg
theorem OwnX.chg {S : Nat → Prop} (h : OwnX w base v xs) (hb : Chg S w w') (hs : ∀ g, v.ownBlock = some g → ¬ S g) : OwnX w' base v xs := by
  obtain ⟨g, c, off, y, rfl, ho, h⟩ := h
  exact ⟨g, c, off, y, rfl, ho, own_chg h hb hs⟩
theorem OwnX.rebase {base' : Nat} (h : OwnX w base v xs) (hb : base' ≤ base) : OwnX w base' v xs := by
  obtain ⟨g, c, off, y, rfl, ho, h⟩ := h
  exact ⟨g, c, off, y, rfl, ho, own_base h hb⟩

/-- The call gives back a new slice of ints, cut from one. -/
def NewX (w : World) (xs : List Int) (e : Ending) (w' : World) : Prop := ∃ v, e = .returned v ∧ OwnX w' w.heap.size v xs ∧ Bl w w'

/-- v[1:], of a slice of one's own. -/
theorem OwnX.of_own {g c : Nat} {y : Int} {off : Nat} (h : OwnI w base (.slice (some ⟨g, 0, none⟩) (xs.length + 1) c) (y :: xs)) (hoff : off = if c = 1 then 0 else 1) : OwnX w base (.slice (some ⟨g, off, none⟩) xs.length (c - 1)) xs := by
  have hc : xs.length + 1 ≤ c := by
    obtain ⟨A, c', e, h2, h3, _⟩ := own_open h
    injection e with e1 e2 e3
    subst e3
    simpa using h2
  refine ⟨g, c - 1, off, y, rfl, fun h0 => by rw [hoff, if_neg (by omega)], ?_⟩
  rw [show c - 1 + 1 = c by omega]
  exact h
end

end Go.Proofs.Ythgghafndabpfaa
