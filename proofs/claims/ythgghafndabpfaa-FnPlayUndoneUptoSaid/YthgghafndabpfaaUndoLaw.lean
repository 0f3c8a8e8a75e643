/- FnPlayUndone returns true: the plain law, and the walk of the law. -/
import Derived.Test.YthgghafndabpfaaPlayLaws
import Derived.Test.YthgghafndabpfaaWhere
namespace Go.Proofs.Ythgghafndabpfaa
open Go.RowKit

/-- The move back, as a move. -/
def bkM (x : List Int) (e : Nat) : Mv := (((backOf x e).1 : Nat), (backOf x e).2.1, (backOf x e).2.2)
/-- The last t moves, undone: the last one first. -/
def undoMs (N : Nat) (ms : List Mv) (t : Nat) : List Mv := if N = 0 then [] else (List.range t).map fun i => bkM (play N (ms.take (ms.length - 1 - i))) (ix (ms.getD (ms.length - 1 - i) (0, 0, 0)).2.1 N)

theorem undoMs_zero (N : Nat) (ms : List Mv) : undoMs N ms 0 = [] := by unfold undoMs; split <;> rfl
theorem undoMs_len (N : Nat) (ms : List Mv) (t : Nat) : (undoMs N ms t).length ≤ t := by unfold undoMs; split <;> simp
theorem undoMs_succ (N : Nat) (ms : List Mv) {t k : Nat} (hk : k < ms.length) (ht : ms.length - 1 - t = k) :
    undoMs N ms (t + 1) = if N = 0 then undoMs N ms t else undoMs N ms t ++ [bkM (play N (ms.take k)) (ix ms[k].2.1 N)] := by
  unfold undoMs
  by_cases h : N = 0
  · rw [if_pos h, if_pos h, if_pos h]
  · rw [if_neg h, if_neg h, if_neg h, List.range_succ, List.map_append, List.map_cons, List.map_nil, ht, List.getD_eq_getElem?_getD, List.getElem?_eq_getElem hk]
    rfl

theorem undo_step {N : Nat} (hN : 0 < N) {x : List Int} (hx : Ord N x) (m : Mv) : playStep N (playStep N x m) (bkM x (ix m.2.1 N)) = x := by
  have he := ix_lt m.2.1 hN
  have hm := hx.has he
  have h := raw_undo (q := ix m.1 4) (m := ((ix m.2.2 N : Nat) : Int)) hx.nodup hm
  rw [playStep_raw N x m, playStep_raw]
  have e1 : (ix (bkM x (ix m.2.1 N)).1 4 : Nat) = (backOf x (ix m.2.1 N : Nat)).1 := by
    unfold bkM backOf
    split <;> rfl
  have e2 : ((ix (bkM x (ix m.2.1 N)).2.1 N : Nat) : Int) = (backOf x (ix m.2.1 N : Nat)).2.1 := by
    have : (backOf x (ix m.2.1 N : Nat)).2.1 = ((ix m.2.1 N : Nat) : Int) := by unfold backOf; split <;> rfl
    unfold bkM
    simp only
    rw [this, ix_self he]
  have e3 : ((ix (bkM x (ix m.2.1 N)).2.2 N : Nat) : Int) = (backOf x (ix m.2.1 N : Nat)).2.2 := by
    have : 0 ≤ (backOf x (ix m.2.1 N : Nat)).2.2 ∧ (backOf x (ix m.2.1 N : Nat)).2.2 < N := by
      unfold backOf
      split
      · exact ⟨Int.le_refl _, by show (0 : Int) < N; omega⟩
      · rename_i h0
        have hl := List.idxOf_lt_length_of_mem hm
        have hp : x.idxOf ((ix m.2.1 N : Nat) : Int) - 1 < x.length := by omega
        simp only
        rw [List.getD_eq_getElem?_getD, List.getElem?_eq_getElem hp]
        exact (hx.mem _).1 (List.getElem_mem hp)
    obtain ⟨k, hk⟩ : ∃ k : Nat, (backOf x (ix m.2.1 N : Nat)).2.2 = k := ⟨_, (Int.toNat_of_nonneg this.1).symm⟩
    unfold bkM
    simp only
    rw [hk] at this ⊢
    rw [ix_self (by omega)]
  rw [e1, e2, e3]
  exact h

theorem undo_fold {N : Nat} (hN : 0 < N) (ms : List Mv) : ∀ t, t ≤ ms.length → (undoMs N ms t).foldl (playStep N) (play N ms) = play N (ms.take (ms.length - t)) := by
  intro t
  induction t with
  | zero => intro _; rw [undoMs_zero, Nat.sub_zero, List.take_length]; rfl
  | succ t ih =>
    intro ht
    obtain ⟨k, hk⟩ : ∃ k, ms.length - 1 - t = k := ⟨_, rfl⟩
    have hkl : k < ms.length := by omega
    rw [undoMs_succ N ms hkl hk, if_neg (by omega), List.foldl_append, ih (by omega)]
    rw [show ms.length - t = k + 1 by omega, show ms.length - (t + 1) = k by omega]
    have e : play N (ms.take (k + 1)) = playStep N (play N (ms.take k)) ms[k] := by
      unfold play
      rw [if_neg (by omega), if_neg (by omega), List.take_succ_eq_append_getElem hkl, List.foldl_append]; rfl
    rw [e]
    exact undo_step hN (play_ord N _) ms[k]
theorem undo_law (N : Nat) (ms : List Mv) : play N (ms ++ undoMs N ms ms.length) = nums N := by
  by_cases h0 : N = 0
  · subst h0; rfl
  · have h := undo_fold (N := N) (Nat.pos_of_ne_zero h0) ms ms.length (Nat.le_refl _)
    rw [Nat.sub_self] at h
    have e : play N (ms ++ undoMs N ms ms.length) = (undoMs N ms ms.length).foldl (playStep N) (play N ms) := by
      unfold play
      rw [if_neg h0, if_neg h0, List.foldl_append]
    rw [e, h]
    unfold play
    rw [if_neg h0]; rfl

/-- The first moves of a slice. -/
theorem Mvs.take {w : World} {A : Option Addr} {n c : Nat} {ms : List Mv} (h : Mvs w (.slice A n c) ms) {k : Nat} (hk : k ≤ ms.length) : Mvs w (.slice A k c) (ms.take k) := by
  obtain ⟨h1, A', c', e, h2, h3, h4⟩ := h
  injection e with e1 e2 e3
  subst e1 e2 e3
  refine ⟨mcells_len _, _, _, by rw [List.length_take, Nat.min_eq_left hk], by rw [List.length_take]; omega, h3, fun h0 => ?_⟩
  rw [List.length_take] at h0
  obtain ⟨b, off, e, h5⟩ := h4 (by omega)
  refine ⟨b, off, e, fun j u hj => h5 j u ?_⟩
  have hs : mcells ms = mcells (ms.take k) ++ mcells (ms.drop k) := by rw [← mcells_append, List.take_append_drop]
  rw [hs, List.getElem?_append_left]
  · exact hj
  · exact (List.getElem?_eq_some_iff.1 hj).1

end Go.Proofs.Ythgghafndabpfaa
