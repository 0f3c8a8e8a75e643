/- FnPlayBoth, FnPlayOnce and FnPlayTurns return true: the walks of the laws. -/
import Derived.Test.YthgghafndabpfaaPlayList
import Derived.Test.YthgghafndabpfaaPlayRing
import Derived.Test.YthgghafndabpfaaPlayMore
import Derived.Test.YthgghafndabpfaaCircleMore
import Derived.Test.YthgghafndabpfaaTurnLaws
import Derived.Test.YthgghafndabpfaaOrder
namespace Go.Proofs.Ythgghafndabpfaa
open Go.RowKit

theorem playOf_count (a : Int) (ms : List Mv) : ∀ k : Nat, k < (playOf a ms).length → (playOf a ms).count (k : Int) = 1 := perm_count (play_ord (ix a 200) ms)



theorem moveParts : (Try.prog.info? 27).map (fun i => (i.zero, i.size, i.bytes)) = some (some (.agg #[.int .i64 0, .int .i64 0, .int .i64 0]), 3, 24) := by kernel_rfl
theorem one_moves (ps : List Mv) : ∀ y ∈ mcells ps, y.oneCell' = true := by
  induction ps with
  | nil => intro y hy; cases hy
  | cons p ps ih =>
    intro y hy
    simp only [mcells, List.mem_cons] at hy
    rcases hy with rfl | rfl | rfl | hy
    · rfl
    · rfl
    · rfl
    · exact ih y hy
theorem sl_move {w : World} {g : Nat} {a b c : Int} (h0 : w.cell? ⟨g, 0, none⟩ = some (.int .i64 a)) (h1 : w.cell? ⟨g, 1, none⟩ = some (.int .i64 b)) (h2 : w.cell? ⟨g, 2, none⟩ = some (.int .i64 c)) : Sl w 3 (.slice (some ⟨g, 0, none⟩) 1 1) 1 (mcells [(a, b, c)]) := by
  refine ⟨rfl, _, _, rfl, Nat.le_refl _, by unfold maxLen; omega, fun _ => ⟨g, 0, rfl, fun j y hy => ?_⟩⟩
  match j with
  | 0 => simp [mcells] at hy; subst hy; exact h0
  | 1 => simp [mcells] at hy; subst hy; exact h1
  | 2 => simp [mcells] at hy; subst hy; exact h2
  | j + 3 => simp [mcells] at hy
theorem OwnM.mvs {w : World} {base : Nat} {v : Value} {ps : List Mv} (h : OwnM w base v ps) : Mvs w v ps := Sl.of_own h
theorem OwnM.cat {w : World} {base n : Nat} {v : Value} {cs : List Value} {ps : List Mv} (h : w.ownsRow base 27 3 v n cs) (hc : mcells ps = cs) (hn : ps.length = n) : OwnM w base v ps := by
  unfold OwnM; rw [hc, hn]; exact h

/-- The first numbers go to the back. -/
def turnMoves (k : Nat) : List Mv := (List.range k).map fun i : Nat => ((1 : Int), (i : Int), (0 : Int))
theorem turnMoves_succ (k : Nat) : turnMoves (k + 1) = turnMoves k ++ [((1 : Int), (k : Int), (0 : Int))] := by unfold turnMoves; rw [List.range_succ, List.map_append]; rfl
theorem turnMoves_len (k : Nat) : (turnMoves k).length = k := by simp [turnMoves]
theorem ix_self {k n : Nat} (h : k < n) : ix (k : Int) n = k := by unfold ix; rw [Int.emod_eq_of_lt (by omega) (by omega)]; omega
theorem fold_turn (N : Nat) : ∀ k, k ≤ N → (turnMoves k).foldl (playStep N) (nums N) = rot (nums N) k := by
  intro k
  induction k with
  | zero => intro _; simp [turnMoves, rot]
  | succ k ih =>
    intro hk
    rw [turnMoves_succ, List.foldl_append, ih (by omega)]
    show playStep N (rot (nums N) k) ((1 : Int), (k : Int), (0 : Int)) = _
    have hl : k < (nums N).length := by rw [nums_len]; omega
    have hg : (nums N)[k] = (k : Int) := nums_get (by omega)
    obtain ⟨e1, e2⟩ := rot_cons (nums N) k hl
    rw [e1, e2, hg, playStep_raw]
    rw [show ix (1 : Int) 4 = 1 by decide, ix_self (show k < N by omega)]
    exact raw_back (A := []) (by simp)
theorem play_turns (N k : Nat) (hN : N < 200) (hk : k ≤ N) : play N (turnMoves k) = turnOf (nums N) ((k : Int) + 5000) := by
  unfold play
  by_cases h0 : N = 0
  · subst h0
    rw [if_pos rfl]
    exact (turnOf_nil _).symm
  · rw [if_neg h0, fold_turn N k hk]
    unfold turnOf
    rw [farOf_near (by omega), nums_len]
    rcases (by omega : k < N ∨ k = N) with h | h
    · rw [ix_self h]
    · subst h
      have e : ix (k : Int) k = 0 := by unfold ix; rw [Int.emod_self]; rfl
      rw [e, rot_zero]
      unfold rot
      rw [List.drop_of_length_le (by rw [nums_len]; exact Nat.le_refl _), List.take_of_length_le (by rw [nums_len]; exact Nat.le_refl _), List.nil_append]


end Go.Proofs.Ythgghafndabpfaa
