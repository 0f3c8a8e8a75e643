/- Taking an element of a ring out and putting it in elsewhere: put. -/
import Derived.Test.YthgghafndabpfaaRing2
namespace Go.Proofs.Ythgghafndabpfaa
open Go.RowKit

/-- Put in at a place. -/
def insAt {α : Type} (xs : List α) (i : Nat) (x : α) : List α := xs.take i ++ x :: xs.drop i
theorem map_insAt {α β : Type} (f : α → β) (xs : List α) (i : Nat) (x : α) : (insAt xs i x).map f = insAt (xs.map f) i (f x) := by
  unfold insAt; rw [List.map_append, List.map_cons, List.map_take, List.map_drop]
theorem insAt_erase {α : Type} (xs : List α) {i : Nat} (hi : i < xs.length) : insAt (xs.eraseIdx i) i xs[i] = xs := by
  unfold insAt
  have h1 : (xs.take i).length = i := by rw [List.length_take]; omega
  rw [List.eraseIdx_eq_take_drop_succ, List.take_append_of_le_length (by omega), List.take_of_length_le (by omega), List.drop_append_of_le_length (by omega), List.drop_of_length_le (by omega : (xs.take i).length ≤ i), List.nil_append, ← List.drop_eq_getElem_cons hi, List.take_append_drop]
theorem insAt_split {l : Nat} {es : List Nat} {j : Nat} (hj : j ≤ es.length) (e : Nat) :
    l :: es = (l :: es).take j ++ (l :: es)[j]'(by simp; omega) :: es.drop j ∧ l :: insAt es j e = (l :: es).take j ++ (l :: es)[j]'(by simp; omega) :: e :: es.drop j := by
  have h1 : j < (l :: es).length := by simp; omega
  have h2 : (l :: es).take j ++ [(l :: es)[j]] = l :: es.take j := by rw [← List.take_succ_eq_append_getElem h1]; rfl
  constructor
  · have h3 := List.drop_eq_getElem_cons h1
    rw [List.drop_succ_cons] at h3
    rw [← h3, List.take_append_drop]
  · unfold insAt
    rw [← List.cons_append, ← h2, List.append_assoc]; rfl

theorem Path.mid {f : Nat → Nat} {a b p e : Nat} {l m : List Nat} (h : Path f a (l ++ p :: e :: m) b) : f p = e := by
  obtain ⟨c, h1, h2⟩ := Path.append_iff.1 h; exact h2.2.1

section
variable {w w' : World} {D : Nat → Prop} {ad nx pv : Nat → Nat} {val : Nat → Value}

/-- What the two steps make of the pointers. -/
theorem put_paths (hr : Ring w D ad nx pv val) {r : Nat} {l m l' m' : List Nat} {p e b : Nat} (hp : Path nx r (l ++ p :: e :: m) r) (hnd : (l ++ p :: e :: m).Nodup) (hD : ∀ x ∈ l ++ p :: e :: m, D x) (hs : l ++ p :: m = l' ++ b :: m') :
    D e ∧ D p ∧ D b ∧ e ≠ b ∧ pv e = p ∧ nx p = e ∧
    (∀ pv1 : Nat → Nat, (∀ x, D x → pv1 (lnx nx pv p (nx e) x) = x) → Path (lnx (lnx nx pv p (nx e)) pv1 b e) r (l' ++ b :: e :: m') r) := by
  have hDe : D e := hD _ (by simp)
  have hDp : D p := hD _ (by simp)
  have hpe : nx p = e := hp.mid
  have hvp : pv e = p := by rw [← hpe]; exact hr.pn p hDp
  have hperm : (l ++ p :: e :: m).Perm (e :: (l ++ p :: m)) := by
    have h := List.perm_middle (l₁ := l ++ [p]) (a := e) (l₂ := m)
    simpa using h
  obtain ⟨h1, h2⟩ := List.nodup_cons.1 (hperm.nodup_iff.1 hnd)
  have hDb : D b := hD _ (hperm.mem_iff.2 (by rw [hs]; simp))
  have heb : e ≠ b := fun x => h1 (by rw [hs, x]; simp)
  refine ⟨hDe, hDp, hDb, heb, hvp, hpe, fun pv1 hpv1 => ?_⟩
  have hl : p ∉ l := fun h => (List.nodup_append.1 h2).2.2 p h p (by simp) rfl
  have hm : p ∉ m := (List.nodup_cons.1 (List.nodup_append.1 h2).2.1).1
  have hen : lnx nx pv p (nx e) = upd (upd nx p (nx e)) e e := by
    unfold lnx; rw [hr.pn e hDe, hpe]
  have q1 : Path (upd (upd nx p (nx e)) e e) r (l ++ p :: m) r := (hp.remove hl hm).upd_far h1 e
  have hee : pv1 e = e := by
    have := hpv1 e hDe
    rwa [hen, upd_same] at this
  rw [hen]
  unfold lnx
  rw [hee]
  rw [hs] at q1 h1 h2
  refine q1.insert ?_ ?_ (fun h => h1 (by simp [h])) (fun h => h1 (by simp [h])) heb
  · exact fun h => (List.nodup_append.1 h2).2.2 b h b (by simp) rfl
  · exact (List.nodup_cons.1 (List.nodup_append.1 h2).2.1).1

set_option maxRecDepth 100000 in
set_option maxHeartbeats 1000000 in
theorem put_split_ring (hr : Ring w D ad nx pv val) {r : Nat} {l m l' m' : List Nat} {p e b : Nat} (hp : Path nx r (l ++ p :: e :: m) r) (hnd : (l ++ p :: e :: m).Nodup) (hD : ∀ x ∈ l ++ p :: e :: m, D x) (hs : l ++ p :: m = l' ++ b :: m') :
    Calls Try.prog 26 #[P (ad e), P (ad b)] w fun x w' => x = .returned (.tuple #[]) ∧ ∃ nx' pv', Kept w D ad nx' pv' val w' ∧ Path nx' r (l' ++ b :: e :: m') r := by
  obtain ⟨hDe, hDp, hDb, heb, hvp, hpe, hq⟩ := put_paths hr hp hnd hD hs
  have HR := Lib.hid hr
  have HQ := Lib.hid hq
  have HVP := Lib.hid hvp
  have HPE := Lib.hid hpe
  have hne := hr.neq hDe hDb heb
  clear hr hq hp hnd hD hs hvp hpe heb
  go_enter Try.func26, Try.ntmps26
  go_wp2_with fail
  refine (prev_ring HR.out hDe).mono ?_
  rintro x w1 ⟨rfl, k1, _⟩
  rw [HVP.out]
  have K1 := Lib.hid k1
  clear k1 hne
  go_wp2_with fail
  refine (unlink_ring K1.out.ring hDp 1 (by omega) (by omega)).mono ?_
  rintro x w2 ⟨rfl, k2, _⟩
  have k2' : Kept w1 D ad (lnx nx pv p (nx e)) (lpv nx pv p (nx e)) val w2 := by
    have e2 : iter nx (1 + 1) p = nx e := by show nx (nx p) = nx e; rw [HPE.out]
    rw [e2] at k2; exact k2
  have K2 := Lib.hid (K1.out.after k2')
  clear k2 k2'
  go_wp2_with fail
  refine (link_ring K2.out.ring hDb hDe).mono ?_
  rintro x w3 ⟨rfl, k3, _⟩
  have K3 := Lib.hid (K2.out.after k3)
  clear k3
  go_wp2
  go_end0
  exact ⟨rfl, _, _, K3.out, HQ.out _ K2.out.ring.pn⟩

/-- An element of a ring goes behind another one: in the order without it, behind the j-th. -/
theorem put_ring (hr : Ring w D ad nx pv val) {r : Nat} {L : List Nat} (hp : Path nx r (r :: L) r) (hnd : (r :: L).Nodup) (hD : ∀ x ∈ r :: L, D x) {i j e b : Nat} (he : L[i]? = some e) (hb : (r :: L.eraseIdx i)[j]? = some b) :
    Calls Try.prog 26 #[P (ad e), P (ad b)] w fun x w' => x = .returned (.tuple #[]) ∧ ∃ nx' pv', Kept w D ad nx' pv' val w' ∧ Path nx' r (r :: insAt (L.eraseIdx i) j e) r := by
  obtain ⟨hi, he'⟩ := List.getElem?_eq_some_iff.1 he
  obtain ⟨hj, hb'⟩ := List.getElem?_eq_some_iff.1 hb
  have hE : (L.eraseIdx i).length = L.length - 1 := by rw [List.length_eraseIdx, if_pos hi]
  have hj' : j ≤ (L.eraseIdx i).length := by simpa using Nat.le_of_lt_succ hj
  have hL := insAt_erase L hi
  obtain ⟨s1, s2⟩ := insAt_split (l := r) (es := L.eraseIdx i) (j := i) (by omega) L[i]
  obtain ⟨t1, t2⟩ := insAt_split (l := r) (es := L.eraseIdx i) (j := j) hj' L[i]
  rw [hL] at s2
  rw [he'] at s2 t2
  rw [hb'] at t1 t2
  rw [t2]
  have hs := s1.symm.trans t1
  exact put_split_ring hr (s2 ▸ hp) (s2 ▸ hnd) (fun x hx => hD x (by rw [s2]; exact hx)) hs

set_option maxRecDepth 100000 in
set_option maxHeartbeats 400000 in
theorem put_same (b : Nat) (w : World) : Calls Try.prog 26 #[P b, P b] w fun x w' => x = .returned (.tuple #[]) ∧ w = w' := by
  have hq := run_neq_same b w
  go_enter Try.func26, Try.ntmps26
  go_wp2
  go_end0
  exact ⟨rfl, rfl⟩
end

end Go.Proofs.Ythgghafndabpfaa
