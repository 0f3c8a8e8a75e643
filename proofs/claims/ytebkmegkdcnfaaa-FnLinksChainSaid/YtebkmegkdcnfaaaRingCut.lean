/- Rings told by their elements in order: moving in them, and taking one out. -/
import Derived.Test.YtebkmegkdcnfaaaRingId
import Derived.Test.YtebkmegkdcnfaaaTurnPure
import Derived.Test.YtebkmegkdcnfaaaAt
namespace Go.Proofs.Ytebkmegkdcnfaaa
open Go.RowKit

section
variable {w w' : World} {D : Nat → Prop} {nx pv : Nat → Nat} {val : Nat → Value}

/-- The next one, around the end. -/
theorem Path.succ_mod {r : Nat} {L : List Nat} (hp : Path nx r L r) (j : Nat) (hj : j < L.length) : nx L[j] = L[(j + 1) % L.length]'(Nat.mod_lt _ (by omega)) := by
  by_cases h : j + 1 < L.length
  · rw [hp.get_succ j h]
    congr 1
    exact (Nat.mod_eq_of_lt h).symm
  · have e : j = L.length - 1 := by omega
    have h1 := hp.get_last (by omega)
    have h2 := hp.get_zero (by omega)
    subst e
    rw [h1, ← h2]
    congr 1
    rw [show L.length - 1 + 1 = L.length by omega, Nat.mod_self]
theorem iter_path {r : Nat} {L : List Nat} (hp : Path nx r L r) (h0 : 0 < L.length) (m : Nat) : iter nx m r = L[m % L.length]'(Nat.mod_lt _ h0) := by
  induction m with
  | zero =>
    have h2 := hp.get_zero h0
    show r = _
    rw [← h2]
    congr 1
  | succ m ih =>
    rw [iter_succ, ih, hp.succ_mod _ (Nat.mod_lt _ h0)]
    congr 1
    rw [Nat.mod_add_mod]
theorem iter_path_back (hr : Ring w D id nx pv val) {r : Nat} {L : List Nat} (hp : Path nx r L r) (hD : ∀ x ∈ L, D x) (h0 : 0 < L.length) (m : Nat) : iter pv m r = L[ix (-(m : Int)) L.length]'(ix_lt _ h0) := by
  have hpv : ∀ j (hj : j < L.length), pv (L[(j + 1) % L.length]'(Nat.mod_lt _ (by omega))) = L[j] := fun j hj => by
    rw [← hp.succ_mod j hj]; exact hr.pn _ (hD _ (List.getElem_mem _))
  induction m with
  | zero =>
    have h2 := hp.get_zero h0
    show r = _
    rw [← h2]
    congr 1
  | succ m ih =>
    rw [iter_succ, ih]
    have h1 := hpv (ix (-((m + 1 : Nat) : Int)) L.length) (ix_lt _ h0)
    rw [← h1]
    congr 2
    have e1 := ix_eq (-((m + 1 : Nat) : Int)) h0
    have e2 := ix_eq (-(m : Int)) h0
    have e3 : ((ix (-((m + 1 : Nat) : Int)) L.length + 1 : Nat) : Int) % (L.length : Int) = (-(m : Int)) % (L.length : Int) := by
      rw [Int.natCast_add, ← e1, Int.natCast_one, Int.emod_add_emod]
      congr 1
      omega
    rw [e2] at e3
    omega

/-- Move, by whatever distance. -/
theorem move_path (hr : Ring w D id nx pv val) {r : Nat} {L : List Nat} (hp : Path nx r L r) (hD : ∀ x ∈ L, D x) (h0 : 0 < L.length) (hd : D r) (d : Int) (hb : -1073741824 ≤ d ∧ d ≤ 1073741824) :
    Calls Try.prog 64 #[P r, .int .i64 d] w fun e w' => e = .returned (P (L[ix d L.length]'(ix_lt _ h0))) ∧ Kept w D id nx pv val w' := by
  rcases (by omega : d < 0 ∨ 0 ≤ d) with h | h
  · obtain ⟨m, rfl⟩ : ∃ m : Nat, d = -(m : Int) := ⟨(-d).toNat, by omega⟩
    refine (move_bwd hr hd m (by omega) (by omega)).mono ?_
    rintro e w1 ⟨rfl, k1, _⟩
    exact ⟨by rw [← iter_path_back hr hp hD h0 m]; rfl, k1⟩
  · obtain ⟨m, rfl⟩ : ∃ m : Nat, d = (m : Int) := ⟨d.toNat, by omega⟩
    refine (move_fwd hr hd m (by omega)).mono ?_
    rintro e w1 ⟨rfl, k1, _⟩
    refine ⟨?_, k1⟩
    have e1 := iter_path hp h0 m
    have e2 : ix (m : Int) L.length = m % L.length := by unfold ix; omega
    simp only [id, e1, e2]

theorem rot_head {α : Type} (xs : List α) {t : Nat} (ht : t < xs.length) : Go.Proofs.Ytebkmegkdcnfaaa.rot xs t = xs[t] :: (xs.drop (t + 1) ++ xs.take t) := by
  unfold Go.Proofs.Ytebkmegkdcnfaaa.rot
  rw [List.drop_eq_getElem_cons ht]; rfl
theorem mem_rot {α : Type} (xs : List α) (k : Nat) (x : α) : x ∈ Go.Proofs.Ytebkmegkdcnfaaa.rot xs k ↔ x ∈ xs := by
  unfold Go.Proofs.Ytebkmegkdcnfaaa.rot
  rw [List.mem_append, or_comm, ← List.mem_append, List.take_append_drop]
theorem nodup_rot {α : Type} {xs : List α} (h : xs.Nodup) (k : Nat) : (Go.Proofs.Ytebkmegkdcnfaaa.rot xs k).Nodup := by
  unfold Go.Proofs.Ytebkmegkdcnfaaa.rot
  rw [← List.take_append_drop k xs, List.nodup_append] at h
  rw [List.nodup_append]
  exact ⟨h.2.1, h.1, fun a ha b hb e => h.2.2 b hb a ha e.symm⟩

/-- The path from the k-th on. -/
theorem Path.rot {r : Nat} {L : List Nat} (hp : Path nx r L r) {k : Nat} (hk : k < L.length) : Path nx L[k] (Go.Proofs.Ytebkmegkdcnfaaa.rot L k) L[k] := by
  unfold Go.Proofs.Ytebkmegkdcnfaaa.rot
  rw [← List.take_append_drop k L] at hp
  have hd : L.drop k = L[k] :: (L.drop k).tail := by rw [List.drop_eq_getElem_cons hk]; rfl
  exact hp.turns hd

/-- The first one is taken out: what Link makes of the pointers. -/
theorem Path.cutHead (hr : Ring w D id nx pv val) {y z : Nat} {zs : List Nat} (hp : Path nx y (y :: z :: zs) y) (hnd : (y :: z :: zs).Nodup) (hD : ∀ x ∈ y :: z :: zs, D x) :
    nx (nx (pv y)) = z ∧ Path (lnx nx pv (pv y) z) z (z :: zs) z ∧ lnx nx pv (pv y) z (pv y) = z ∧ pv y ∈ z :: zs ∧ lnx nx pv (pv y) z y = y := by
  have hy : D y := hD y (by simp)
  have hnp := hr.np y hy
  have hz : nx y = z := hp.2.1
  have hpz : pv z = y := by rw [← hz]; exact hr.pn y hy
  have hlast : z :: zs = (z :: zs).take zs.length ++ [pv y] := by
    have e := hr.pv_head hp hD (by simp)
    have e2 : (y :: z :: zs)[(y :: z :: zs).length - 1]'(by simp) = (z :: zs)[zs.length]'(by simp) := by simp
    rw [e, e2, ← List.take_succ_eq_append_getElem (by simp), List.take_of_length_le (by simp)]
  have hm : pv y ∈ z :: zs := by rw [hlast]; simp
  have hne : pv y ≠ y := fun e => (List.nodup_cons.1 hnd).1 (e ▸ hm)
  refine ⟨by rw [hnp, hz], ?_, ?_, hm, ?_⟩
  · have h1 : Path nx z (z :: zs) y := by have := hp.2; rw [hz] at this; exact this
    have hnd1 := (List.nodup_cons.1 hnd).2
    rw [hlast] at hnd1 h1
    have h2 := h1.upd_last (fun h => (List.nodup_append.1 hnd1).2.2 _ h _ (by simp) rfl) z
    rw [← hlast] at h2
    unfold lnx
    rw [hpz]
    exact h2.upd_far (List.nodup_cons.1 hnd).1 _
  · unfold lnx
    rw [hpz, upd_other _ _ hne, upd_same]
  · unfold lnx
    rw [hpz, upd_same, hnp]
end

end Go.Proofs.Ytebkmegkdcnfaaa
