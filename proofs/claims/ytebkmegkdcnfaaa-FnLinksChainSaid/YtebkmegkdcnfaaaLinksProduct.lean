/- FnLinksProduct returns true: the walk of the law. -/
import Derived.Test.YtebkmegkdcnfaaaLinks
namespace Go.Proofs.Ytebkmegkdcnfaaa
open Go.RowKit

theorem one_pairs (ps : List (Int × Int)) : ∀ y ∈ pcells ps, y.oneCell' = true := by
  induction ps with
  | nil => intro y hy; cases hy
  | cons p ps ih =>
    intro y hy
    simp only [pcells, List.mem_cons] at hy
    rcases hy with rfl | rfl | hy
    · rfl
    · rfl
    · exact ih y hy

theorem sl_pair {w : World} {g : Nat} {a b : Int} (h0 : w.cell? ⟨g, 0, none⟩ = some (.int .i64 a)) (h1 : w.cell? ⟨g, 1, none⟩ = some (.int .i64 b)) : Sl w 2 (.slice (some ⟨g, 0, none⟩) 1 1) 1 (pcells [(a, b)]) := by
  refine ⟨rfl, _, _, rfl, Nat.le_refl _, by unfold maxLen; omega, fun _ => ⟨g, 0, rfl, fun j y hy => ?_⟩⟩
  match j with
  | 0 => simp [pcells] at hy; subst hy; exact h0
  | 1 => simp [pcells] at hy; subst hy; exact h1
  | j + 2 => simp [pcells] at hy

theorem own_prs {w : World} {base n : Nat} {v : Value} {cs : List Value} {ps : List (Int × Int)} (h : w.ownsRow base 47 2 v n cs) (hc : pcells ps = cs) (hn : ps.length = n) : Prs w v ps := by
  have := Sl.of_own h
  unfold Prs; rw [hc, hn]; exact this

theorem linksOf_count (N : Nat) (ps : List (Int × Int)) (k : Nat) (hk : k < N) : (linksOf N ps).count (k : Int) = 1 := by
  obtain ⟨d1, d2, d3, d4⟩ := linkAll_inv N (by omega) ps (id, id) (fun _ h => h) (fun _ h => h) (fun _ _ => rfl) (fun _ _ => rfl)
  exact tab_count (linkAll N (id, id) ps).1 (linkAll N (id, id) ps).2 d2 d3 d4 k hk

end Go.Proofs.Ytebkmegkdcnfaaa
