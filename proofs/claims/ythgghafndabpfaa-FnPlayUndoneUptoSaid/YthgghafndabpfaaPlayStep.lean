/- One move, told by places: plain lemmas. -/
import Derived.Test.YthgghafndabpfaaPlayPure
namespace Go.Proofs.Ythgghafndabpfaa

theorem mem_erase {n : Nat} {x : List Int} (h : Ord n x) {e m : Nat} (he : e < n) (hm : m < n) (hne : e ≠ m) : (m : Int) ∈ x.eraseIdx (x.idxOf (e : Int)) := by
  have h1 := (erase_perm (h.has he)).mem_iff.2 (h.has hm)
  rcases List.mem_cons.1 h1 with h1 | h1
  · omega
  · exact h1
theorem idx_get {x : List Int} {v : Int} (h : v ∈ x) : x[x.idxOf v]? = some v := by
  have hl := List.idxOf_lt_length_of_mem h
  rw [List.getElem?_eq_getElem hl]
  exact congrArg some (List.getElem_idxOf hl)

/-- The four moves, and none. -/
theorem step_none {n : Nat} (x : List Int) (m : Mv) (h1 : 2 ≤ ix m.1 4) (h2 : ix m.2.1 n = ix m.2.2 n) : playStep n x m = x := by
  unfold playStep; rw [if_pos ⟨h1, h2⟩]
theorem step_front {n : Nat} (x : List Int) (m : Mv) (h : ix m.1 4 = 0) : playStep n x m = ins (x.eraseIdx (x.idxOf ((ix m.2.1 n : Nat) : Int))) 0 (ix m.2.1 n : Nat) := by
  unfold playStep; rw [if_neg (by omega)]; simp only [h, if_pos]
theorem step_back {n : Nat} (x : List Int) (m : Mv) (h : ix m.1 4 = 1) : playStep n x m = ins (x.eraseIdx (x.idxOf ((ix m.2.1 n : Nat) : Int))) (x.eraseIdx (x.idxOf ((ix m.2.1 n : Nat) : Int))).length (ix m.2.1 n : Nat) := by
  unfold playStep; rw [if_neg (by omega)]; simp [h]
theorem step_after {n : Nat} (x : List Int) (m : Mv) (h : ix m.1 4 = 2) (h2 : ix m.2.1 n ≠ ix m.2.2 n) : playStep n x m = ins (x.eraseIdx (x.idxOf ((ix m.2.1 n : Nat) : Int))) ((x.eraseIdx (x.idxOf ((ix m.2.1 n : Nat) : Int))).idxOf ((ix m.2.2 n : Nat) : Int) + 1) (ix m.2.1 n : Nat) := by
  unfold playStep; rw [if_neg (fun e => h2 e.2)]; simp [h]
theorem step_before {n : Nat} (x : List Int) (m : Mv) (h : ix m.1 4 = 3) (h2 : ix m.2.1 n ≠ ix m.2.2 n) : playStep n x m = ins (x.eraseIdx (x.idxOf ((ix m.2.1 n : Nat) : Int))) ((x.eraseIdx (x.idxOf ((ix m.2.1 n : Nat) : Int))).idxOf ((ix m.2.2 n : Nat) : Int)) (ix m.2.1 n : Nat) := by
  unfold playStep; rw [if_neg (fun e => h2 e.2)]; simp [h]
theorem fold_take {n : Nat} (ms : List Mv) (x : List Int) (k : Nat) (hk : k < ms.length) : (ms.take (k + 1)).foldl (playStep n) x = playStep n ((ms.take k).foldl (playStep n) x) ms[k] := by
  rw [List.take_succ_eq_append_getElem hk, List.foldl_append]; rfl
theorem playOf_len (a : Int) (ms : List Mv) : (playOf a ms).length < 200 := by
  have h := (play_ord (ix a 200) ms).len
  unfold playOf; rw [h]; exact ix_lt a (by omega)
theorem playOf_len_eq (a : Int) (ms : List Mv) : (playOf a ms).length = ix a 200 := (play_ord (ix a 200) ms).len

end Go.Proofs.Ythgghafndabpfaa
