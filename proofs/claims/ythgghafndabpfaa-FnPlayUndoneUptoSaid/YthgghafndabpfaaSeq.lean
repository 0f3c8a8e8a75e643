/- The walks of the reference's functions that cut and join slices of ints. -/
import Derived.Test.YthgghafndabpfaaAt
import Derived.Test.YthgghafndabpfaaSortPure
namespace Go.Proofs.Ythgghafndabpfaa
open Go.RowKit

/-- Parts of a slice of ints. -/
theorem Ints.take {w : World} {A : Option Addr} {n c : Nat} {xs : List Int} (h : Ints w (.slice A n c) xs) (k : Nat) (hk : k ≤ n) : Sl w 1 (.slice A k c) k ((xs.take k).map (Value.int .i64)) := by
  obtain ⟨h1, A', c', e, h2, h3, h4⟩ := h
  simp at e
  obtain ⟨rfl, rfl, rfl⟩ := e
  refine ⟨by simp; omega, _, _, rfl, by omega, h3, fun hn => ?_⟩
  obtain ⟨b, off, e, h5⟩ := h4 (by omega)
  refine ⟨b, off, e, fun j u hu => h5 j u ?_⟩
  rw [List.map_take, List.getElem?_take] at hu
  split at hu
  · exact hu
  · cases hu

theorem Ints.drop {w : World} {A : Option Addr} {n c : Nat} {xs : List Int} (h : Ints w (.slice A n c) xs) (k : Nat) (hk : k ≤ n) :
    Sl w 1 (.slice (if c = k then A else A.map (·.add k)) (n - k) (c - k)) (n - k) ((xs.drop k).map (Value.int .i64)) := by
  obtain ⟨h1, A', c', e, h2, h3, h4⟩ := h
  simp at e
  obtain ⟨rfl, rfl, rfl⟩ := e
  refine ⟨by simp, _, _, rfl, by omega, by unfold maxLen at *; omega, fun hn => ?_⟩
  obtain ⟨b, off, e, h5⟩ := h4 (by omega)
  subst e
  rw [if_neg (by omega)]
  refine ⟨b, off + k, ?_, fun j u hu => ?_⟩
  · simp only [Option.map_some, Addr.add]
    split
    · subst_vars; rfl
    · rfl
  · have := h5 (k + j) u (by rw [List.map_drop, List.getElem?_drop] at hu; exact hu)
    rw [← Nat.add_assoc] at this
    exact this

theorem one_ints (xs : List Int) : ∀ y ∈ xs.map (Value.int .i64), y.oneCell' = true := by
  intro y hy
  obtain ⟨x, _, rfl⟩ := List.mem_map.1 hy
  rfl

theorem own_ints {w : World} {base n : Nat} {v : Value} {cs : List Value} {xs : List Int} (h : w.ownsRow base 3 1 v n cs) (hc : xs.map (Value.int .i64) = cs) (hn : xs.length = n) : w.ownsRow base 3 1 v xs.length (xs.map (Value.int .i64)) := by
  rw [hc, hn]; exact h



end Go.Proofs.Ythgghafndabpfaa
