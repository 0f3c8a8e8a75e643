/- The number of rings and of links that change what follows: plain lemmas. -/
import Derived.Test.YtebkmegkdcnfaaaCycLink
namespace Go.Proofs.Ytebkmegkdcnfaaa
open Go.RowKit

/-- How many of the first k links change what follows. -/
def changesTo (n : Nat) (ps : List (Int × Int)) : Nat → Nat
  | 0 => 0
  | k + 1 => changesTo n ps k + if linksOf n (ps.take k) = linksOf n (ps.take (k + 1)) then 0 else 1
theorem changesTo_le (n : Nat) (ps : List (Int × Int)) (k : Nat) : changesTo n ps k ≤ k := by
  induction k with
  | zero => exact Nat.le_refl _
  | succ k ih => unfold changesTo; split <;> omega
theorem id_perm (n : Nat) : Perm2 n id id := ⟨fun _ h => h, fun _ h => h, fun _ _ => rfl, fun _ _ => rfl⟩
theorem singles_flatten (l : List Nat) : (l.map fun x => [x]).flatten = l := by
  induction l with
  | nil => rfl
  | cons x l ih => rw [List.map_cons, List.flatten_cons, ih]; rfl
theorem cycs_id (n : Nat) : (cycs n id).length = n := by
  have h : Rings n id ((List.range n).map fun x => [x]) := by
    refine ⟨fun c hc => ?_, by rw [singles_flatten]; exact List.nodup_range, fun j hj => by rw [singles_flatten]; exact List.mem_range.2 hj⟩
    obtain ⟨x, hx, rfl⟩ := List.mem_map.1 hc
    exact ⟨x, [], rfl, ⟨rfl, rfl⟩, by simp, by simpa using hx⟩
  rw [(cycs_rings (id_perm n)).same h, List.length_map, List.length_range]
theorem linksOf_at {n : Nat} {ps : List (Int × Int)} {i : Nat} (hi : i < n) : (linksOf n ps)[i]? = some ((linkAll n (id, id) ps).1 i : Int) := by
  simp [linksOf, hi]
/-- The parity does not change. -/
theorem parity_inv (n : Nat) (ps : List (Int × Int)) : ∀ k, k ≤ ps.length → ((cycs n (linkAll n (id, id) (ps.take k)).1).length + changesTo n ps k) % 2 = n % 2 := by
  intro k
  induction k with
  | zero =>
    intro _
    show ((cycs n id).length + 0) % 2 = _
    rw [cycs_id]; rfl
  | succ k ih =>
    intro hk
    have ih := ih (by omega)
    rcases Nat.eq_zero_or_pos n with h0 | h0
    · subst h0
      have e : changesTo 0 ps (k + 1) = changesTo 0 ps k := by
        show changesTo 0 ps k + (if linksOf 0 (ps.take k) = linksOf 0 (ps.take (k + 1)) then 0 else 1) = _
        rw [if_pos (show linksOf 0 (ps.take k) = linksOf 0 (ps.take (k + 1)) from rfl)]; rfl
      rw [e]
      exact ih
    · have hL := linkAll_take n (id, id) ps k (by omega)
      have hP := linkAll_perm n (ps.take k)
      have l1 := ix_lt (ps[k]'(by omega)).1 h0
      have l2 := ix_lt (ps[k]'(by omega)).2 h0
      have hc : changesTo n ps (k + 1) = changesTo n ps k + if linksOf n (ps.take k) = linksOf n (ps.take (k + 1)) then 0 else 1 := rfl
      have hf' : (linkAll n (id, id) (ps.take (k + 1))).1 = lnx (linkAll n (id, id) (ps.take k)).1 (linkAll n (id, id) (ps.take k)).2 (ix (ps[k]'(by omega)).1 n) (ix (ps[k]'(by omega)).2 n) := by rw [hL]; rfl
      by_cases h1 : (linkAll n (id, id) (ps.take k)).1 (ix (ps[k]'(by omega)).1 n) = ix (ps[k]'(by omega)).2 n
      · rw [lnx_same hP l1 h1] at hf'
        have he : linksOf n (ps.take k) = linksOf n (ps.take (k + 1)) := by unfold linksOf; rw [hf']
        rw [hc, if_pos he, hf']
        exact ih
      · have he : linksOf n (ps.take k) ≠ linksOf n (ps.take (k + 1)) := by
          intro e
          have e1 := linksOf_at (ps := ps.take k) l1
          rw [e, linksOf_at l1, hf', lnx_at hP l2] at e1
          simp at e1
          omega
        rw [hc, if_neg he, hf']
        by_cases h2 : ix (ps[k]'(by omega)).2 n ∈ cyc n (linkAll n (id, id) (ps.take k)).1 (ix (ps[k]'(by omega)).1 n)
        · have := (cycs_split hP l1 l2 h1 h2).1
          omega
        · have := (cycs_merge hP l1 l2 h2).1
          omega
theorem cycs_pos {n : Nat} {f g : Nat → Nat} (hf : Perm2 n f g) : 0 < (cycs n f).length ↔ 0 < n := by
  constructor
  · intro h
    have := (cycsTo_inv hf n (Nat.le_refl _)).len_le
    have h2 : (cycsTo n f n).length = (cycs n f).length := rfl
    omega
  · intro h
    have h1 := (cycs_rings hf).all 0 h
    rcases Nat.eq_zero_or_pos (cycs n f).length with h2 | h2
    · rw [List.eq_nil_of_length_eq_zero h2] at h1; simp at h1
    · exact h2

end Go.Proofs.Ytebkmegkdcnfaaa
