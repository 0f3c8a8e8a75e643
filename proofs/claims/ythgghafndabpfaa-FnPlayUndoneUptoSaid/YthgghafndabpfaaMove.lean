/- The walks of the laws' functions on slices of moves. -/
import Derived.Test.YthgghafndabpfaaMem
import Derived.StillTailTactics
namespace Go.Proofs.Ythgghafndabpfaa
open Go.RowKit

abbrev Mv := Int × Int × Int
/-- The cells of moves. -/
def mcells : List Mv → List Value
  | [] => []
  | p :: ps => .int .i64 p.1 :: .int .i64 p.2.1 :: .int .i64 p.2.2 :: mcells ps
theorem mcells_len (ps : List Mv) : (mcells ps).length = ps.length * 3 := by
  induction ps with
  | nil => rfl
  | cons p ps ih => simp [mcells, ih]; omega
theorem mcells_append (ps qs : List Mv) : mcells (ps ++ qs) = mcells ps ++ mcells qs := by
  induction ps with
  | nil => rfl
  | cons p ps ih => simp [mcells, ih]
theorem mcells_get0 (ps : List Mv) (k : Nat) (hk : k < ps.length) : (mcells ps)[k * 3]? = some (.int .i64 ps[k].1) := by
  induction ps generalizing k with
  | nil => simp at hk
  | cons p ps ih =>
    cases k with
    | zero => rfl
    | succ k => rw [Nat.succ_mul]; simp [mcells]; exact ih k (by simpa using hk)
theorem mcells_get1 (ps : List Mv) (k : Nat) (hk : k < ps.length) : (mcells ps)[k * 3 + 1]? = some (.int .i64 ps[k].2.1) := by
  induction ps generalizing k with
  | nil => simp at hk
  | cons p ps ih =>
    cases k with
    | zero => rfl
    | succ k => rw [Nat.succ_mul]; simp [mcells]; exact ih k (by simpa using hk)
theorem mcells_get2 (ps : List Mv) (k : Nat) (hk : k < ps.length) : (mcells ps)[k * 3 + 2]? = some (.int .i64 ps[k].2.2) := by
  induction ps generalizing k with
  | nil => simp at hk
  | cons p ps ih =>
    cases k with
    | zero => rfl
    | succ k => rw [Nat.succ_mul]; simp [mcells]; exact ih k (by simpa using hk)
theorem mcells_take_succ (ps : List Mv) (k : Nat) (hk : k < ps.length) : mcells (ps.take (k + 1)) = mcells (ps.take k) ++ [.int .i64 ps[k].1, .int .i64 ps[k].2.1, .int .i64 ps[k].2.2] := by
  rw [List.take_succ_eq_append_getElem hk, mcells_append]; rfl
theorem set3_mid {α : Type} (xs ys : List α) (k : Nat) (u1 u2 u3 : α) (h : xs.length = k * 3) (hk : k * 3 + 2 < ys.length) :
    (((xs ++ ys.drop (k * 3)).set (k * 3) u1).set (k * 3 + 1) u2).set (k * 3 + 2) u3 = (xs ++ [u1, u2, u3]) ++ ys.drop ((k + 1) * 3) := by
  rw [set_mid xs ys _ u1 h (by omega), set_mid (xs ++ [u1]) ys _ u2 (by simp [h]) (by omega), set_mid (xs ++ [u1] ++ [u2]) ys _ u3 (by simp [h]) (by omega), Nat.succ_mul]
  simp

/-- A slice of moves. -/
def Mvs (w : World) (v : Value) (ps : List Mv) : Prop := Sl w 3 v ps.length (mcells ps)
theorem Mvs.bl {w w' : World} {v : Value} {xs : List Mv} (h : Mvs w v xs) (hb : Bl w w') : Mvs w' v xs := Sl.bl h hb
theorem Mvs.open {w : World} {v : Value} {xs : List Mv} (h : Mvs w v xs) : ∃ A c, v = .slice A xs.length c ∧ xs.length ≤ c ∧ c ≤ maxLen ∧
    ∀ k (hk : k < xs.length), ∃ b off, A = some ⟨b, off, none⟩ ∧ w.cell? ⟨b, off + k * 3, none⟩ = some (.int .i64 xs[k].1) ∧ w.cell? ⟨b, off + k * 3 + 1, none⟩ = some (.int .i64 xs[k].2.1) ∧ w.cell? ⟨b, off + k * 3 + 2, none⟩ = some (.int .i64 xs[k].2.2) := by
  obtain ⟨h1, A, c, rfl, h2, h3, h4⟩ := h
  refine ⟨A, c, rfl, h2, h3, fun k hk => ?_⟩
  obtain ⟨b, off, e, h5⟩ := h4 (by omega)
  exact ⟨b, off, e, h5 _ _ (mcells_get0 _ _ hk), by rw [Nat.add_assoc]; exact h5 _ _ (mcells_get1 _ _ hk), by rw [Nat.add_assoc]; exact h5 _ _ (mcells_get2 _ _ hk)⟩

theorem moveInfo : (Try.prog.info? 27).map (fun i => (i.zero, i.size, i.bytes)) = some (some (.agg #[.int .i64 0, .int .i64 0, .int .i64 0]), 3, 24) := by kernel_rfl

abbrev OwnM (w : World) (base : Nat) (v : Value) (ps : List Mv) : Prop := w.ownsRow base 27 3 v ps.length (mcells ps)
def NewMvs (w : World) (ps : List Mv) (e : Ending) (w' : World) : Prop := ∃ v, e = .returned v ∧ OwnM w' w.heap.size v ps ∧ Bl w w'


end Go.Proofs.Ythgghafndabpfaa
