/- The walks of the laws' functions on slices of pairs. -/
import Derived.Test.YtoodmppijlfaoaaMem
import Derived.StillTailTactics
namespace Go.Proofs.Ytoodmppijlfaoaa
open Go.RowKit

/-- The cells of pairs. -/
def pcells : List (Int × Int) → List Value
  | [] => []
  | p :: ps => .int .i64 p.1 :: .int .i64 p.2 :: pcells ps
theorem pcells_len (ps : List (Int × Int)) : (pcells ps).length = ps.length * 2 := by
  induction ps with
  | nil => rfl
  | cons p ps ih => simp [pcells, ih]; omega
theorem pcells_append (ps qs : List (Int × Int)) : pcells (ps ++ qs) = pcells ps ++ pcells qs := by
  induction ps with
  | nil => rfl
  | cons p ps ih => simp [pcells, ih]
theorem pcells_get0 (ps : List (Int × Int)) (k : Nat) (hk : k < ps.length) : (pcells ps)[k * 2]? = some (.int .i64 ps[k].1) := by
  induction ps generalizing k with
  | nil => simp at hk
  | cons p ps ih =>
    cases k with
    | zero => rfl
    | succ k => rw [Nat.succ_mul]; simp [pcells]; exact ih k (by simpa using hk)
theorem pcells_get1 (ps : List (Int × Int)) (k : Nat) (hk : k < ps.length) : (pcells ps)[k * 2 + 1]? = some (.int .i64 ps[k].2) := by
  induction ps generalizing k with
  | nil => simp at hk
  | cons p ps ih =>
    cases k with
    | zero => rfl
    | succ k => rw [Nat.succ_mul]; simp [pcells]; exact ih k (by simpa using hk)

theorem pcells_take_succ (ps : List (Int × Int)) (k : Nat) (hk : k < ps.length) : pcells (ps.take (k + 1)) = pcells (ps.take k) ++ [.int .i64 ps[k].1, .int .i64 ps[k].2] := by
  rw [List.take_succ_eq_append_getElem hk, pcells_append]; rfl
theorem set2_mid {α : Type} (xs ys : List α) (k : Nat) (u1 u2 : α) (h : xs.length = k * 2) (hk : k * 2 + 1 < ys.length) :
    ((xs ++ ys.drop (k * 2)).set (k * 2) u1).set (k * 2 + 1) u2 = (xs ++ [u1, u2]) ++ ys.drop ((k + 1) * 2) := by
  rw [set_mid xs ys _ u1 h (by omega), set_mid (xs ++ [u1]) ys _ u2 (by simp [h]) hk, Nat.succ_mul]
  simp

/-- A slice of pairs. -/
def Prs (w : World) (v : Value) (ps : List (Int × Int)) : Prop := Sl w 2 v ps.length (pcells ps)
theorem Prs.bl {w w' : World} {v : Value} {xs : List (Int × Int)} (h : Prs w v xs) (hb : Bl w w') : Prs w' v xs := Sl.bl h hb
theorem Prs.open {w : World} {v : Value} {xs : List (Int × Int)} (h : Prs w v xs) : ∃ A c, v = .slice A xs.length c ∧ xs.length ≤ c ∧ c ≤ maxLen ∧
    ∀ k (hk : k < xs.length), ∃ b off, A = some ⟨b, off, none⟩ ∧ w.cell? ⟨b, off + k * 2, none⟩ = some (.int .i64 xs[k].1) ∧ w.cell? ⟨b, off + k * 2 + 1, none⟩ = some (.int .i64 xs[k].2) := by
  obtain ⟨h1, A, c, rfl, h2, h3, h4⟩ := h
  refine ⟨A, c, rfl, h2, h3, fun k hk => ?_⟩
  obtain ⟨b, off, e, h5⟩ := h4 (by omega)
  exact ⟨b, off, e, h5 _ _ (pcells_get0 _ _ hk), by rw [Nat.add_assoc]; exact h5 _ _ (pcells_get1 _ _ hk)⟩

theorem pairInfo : (Try.prog.info? 44).map (fun i => (i.zero, i.size, i.bytes)) = some (some (.agg #[.int .i64 0, .int .i64 0]), 2, 16) := by kernel_rfl

abbrev OwnP (w : World) (base : Nat) (v : Value) (ps : List (Int × Int)) : Prop := w.ownsRow base 44 2 v ps.length (pcells ps)
def NewPrs (w : World) (ps : List (Int × Int)) (e : Ending) (w' : World) : Prop := ∃ v, e = .returned v ∧ OwnP w' w.heap.size v ps ∧ Bl w w'

end Go.Proofs.Ytoodmppijlfaoaa
