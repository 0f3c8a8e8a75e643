/- Turning a list: plain lemmas. -/
import Derived.Test.YthgghafndabpfaaPath
namespace Go.Proofs.Ythgghafndabpfaa

/-- A list from its k-th element on, around its end. -/
def rot {α : Type} (xs : List α) (k : Nat) : List α := xs.drop k ++ xs.take k
theorem rot_len {α : Type} (xs : List α) (k : Nat) : (rot xs k).length = xs.length := by simp [rot]; omega
theorem rot_map {α β : Type} (f : α → β) (xs : List α) (k : Nat) : (rot xs k).map f = rot (xs.map f) k := by simp [rot]

/-- The next one, and the one ahead, in a ring of n numbers. -/
def nxc (n : Nat) (j : Nat) : Nat := if j + 1 < n then j + 1 else 0
def pvc (n : Nat) (j : Nat) : Nat := if j = 0 then n - 1 else j - 1

theorem path_range (n : Nat) : ∀ m, m < n → Path (nxc n) 0 (List.range (m + 1)) (nxc n m) := by
  intro m
  induction m with
  | zero => intro _; exact ⟨rfl, rfl⟩
  | succ m ih =>
    intro hm
    rw [List.range_succ]
    refine (ih (by omega)).append ⟨?_, rfl⟩
    unfold nxc; rw [if_pos (by omega)]
theorem path_nxc (n : Nat) (hn : 0 < n) : Path (nxc n) 0 (List.range n) 0 := by
  have h := path_range n (n - 1) (by omega)
  have e : n - 1 + 1 = n := by omega
  have e2 : nxc n (n - 1) = 0 := by unfold nxc; rw [if_neg (by omega)]
  rw [e, e2] at h
  exact h
/-- The ring from p on. -/
theorem path_rot (n p : Nat) (hp : p < n) : Path (nxc n) p (p :: (rot (List.range n) p).tail) p ∧ p :: (rot (List.range n) p).tail = rot (List.range n) p := by
  have h := path_nxc n (by omega)
  have hd : (List.range n).drop p = p :: (List.range n).drop (p + 1) := by
    rw [List.drop_eq_getElem_cons (by simpa using hp)]; simp
  have e : p :: (rot (List.range n) p).tail = rot (List.range n) p := by
    unfold rot; rw [hd]; rfl
  refine ⟨?_, e⟩
  rw [e]
  unfold rot
  rw [← List.take_append_drop p (List.range n)] at h
  exact h.turns (by rw [hd]; rfl)
theorem rot_mem (n p j : Nat) : j ∈ rot (List.range n) p ↔ j < n := by
  unfold rot
  rw [List.mem_append, or_comm, ← List.mem_append, List.take_append_drop, List.mem_range]
theorem rot_nodup (n p : Nat) (hp : p < n) : p ∉ (rot (List.range n) p).tail := by
  have h : (rot (List.range n) p).Nodup := by
    unfold rot
    have h1 : (List.range n).Nodup := List.nodup_range
    rw [← List.take_append_drop p (List.range n)] at h1
    rw [List.nodup_append] at h1 ⊢
    exact ⟨h1.2.1, h1.1, fun a ha b hb e => h1.2.2 b hb a ha e.symm⟩
  rw [← (path_rot n p hp).2] at h
  exact (List.nodup_cons.1 h).1
theorem range_get {xs : List Int} : (List.range xs.length).map (fun j => xs.getD j 0) = xs := by
  apply List.ext_getElem (by simp)
  intro i h1 h2
  simp [List.getD_eq_getElem?_getD, h2]

theorem nxc_mod (n j : Nat) (hj : j < n) : nxc n j = (j + 1) % n := by
  unfold nxc
  by_cases h : j + 1 < n
  · rw [if_pos h, Nat.mod_eq_of_lt h]
  · have : j + 1 = n := by omega
    rw [if_neg h, this, Nat.mod_self]
theorem iter_nxc (n : Nat) (hn : 0 < n) (d j : Nat) (hj : j < n) : iter (nxc n) d j = (j + d) % n := by
  induction d generalizing j with
  | zero => simp [iter, Nat.mod_eq_of_lt hj]
  | succ d ih =>
    show iter (nxc n) d (nxc n j) = _
    rw [nxc_mod n j hj, ih _ (Nat.mod_lt _ hn), Nat.mod_add_mod]
    congr 1
    omega
theorem pvc_nxc (n j : Nat) (hj : j < n) : pvc n (nxc n j) = j := by
  unfold nxc pvc
  by_cases h : j + 1 < n
  · rw [if_pos h, if_neg (by omega)]; omega
  · rw [if_neg h, if_pos rfl]; omega
theorem pvc_lt (n j : Nat) (hj : j < n) : pvc n j < n := by unfold pvc; split <;> omega
theorem nxc_lt (n j : Nat) (hj : j < n) : nxc n j < n := by unfold nxc; split <;> omega
theorem pvc_mod (n j : Nat) (hj : j < n) : pvc n j = (j + (n - 1)) % n := by
  unfold pvc
  by_cases h : j = 0
  · rw [if_pos h, h, Nat.zero_add, Nat.mod_eq_of_lt (by omega)]
  · rw [if_neg h]
    have e : j + (n - 1) = n + (j - 1) := by omega
    rw [e, Nat.add_mod_left, Nat.mod_eq_of_lt (by omega)]
theorem iter_pvc (n : Nat) (hn : 0 < n) (d j : Nat) (hj : j < n) : iter (pvc n) d j = (j + d * (n - 1)) % n := by
  induction d generalizing j with
  | zero => simp [iter, Nat.mod_eq_of_lt hj]
  | succ d ih =>
    show iter (pvc n) d (pvc n j) = _
    rw [pvc_mod n j hj, ih _ (Nat.mod_lt _ hn), Nat.mod_add_mod]
    congr 1
    rw [Nat.succ_mul]
    omega

/-- An index: the remainder of at least 0. -/
def ix (a : Int) (n : Nat) : Nat := (a % n).toNat
theorem iter_pos (n : Nat) (hn : 0 < n) (j : Nat) (hj : j < n) (d : Nat) : iter (nxc n) d j = ix ((j : Int) + d) n := by
  rw [iter_nxc n hn d j hj]
  unfold ix
  have : ((j : Int) + d) % n = (((j + d) % n : Nat) : Int) := by rw [Int.natCast_emod, Int.natCast_add]
  rw [this]
  rfl
theorem iter_neg (n : Nat) (hn : 0 < n) (j : Nat) (hj : j < n) (d : Nat) : iter (pvc n) d j = ix ((j : Int) - d) n := by
  rw [iter_pvc n hn d j hj]
  unfold ix
  have e : (j : Int) - d = ((j + d * (n - 1) : Nat) : Int) + (n : Int) * (-(d : Int)) := by
    have h : ((n - 1 : Nat) : Int) = (n : Int) - 1 := by omega
    rw [Int.natCast_add, Int.natCast_mul, h, Int.mul_sub, Int.mul_neg, Int.mul_comm (n : Int) (d : Int)]
    omega
  rw [e, Int.add_mul_emod_self_left]
  omega

end Go.Proofs.Ythgghafndabpfaa
