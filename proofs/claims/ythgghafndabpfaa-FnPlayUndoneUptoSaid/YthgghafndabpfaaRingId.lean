/- The contracts of container/ring, said of elements by their blocks' numbers. -/
import Derived.Test.YthgghafndabpfaaRing3
namespace Go.Proofs.Ythgghafndabpfaa
open Go.RowKit

section
variable {w w' : World} {D : Nat → Prop} {nx pv : Nat → Nat} {val : Nat → Value}

theorem next_id (hr : Ring w D id nx pv val) {i : Nat} (hd : D i) :
    Calls Try.prog 25 #[P i] w fun e w' => e = .returned (P (nx i)) ∧ Kept w D id nx pv val w' ∧ Inited w' i := next_ring hr hd
theorem prev_id (hr : Ring w D id nx pv val) {i : Nat} (hd : D i) :
    Calls Try.prog 27 #[P i] w fun e w' => e = .returned (P (pv i)) ∧ Kept w D id nx pv val w' ∧ Inited w' i := prev_ring hr hd
theorem link_id (hr : Ring w D id nx pv val) {r s : Nat} (hb : D r) (hs : D s) :
    Calls Try.prog 37 #[P r, P s] w fun e w' => e = .returned (P (nx r)) ∧ Kept w D id (lnx nx pv r s) (lpv nx pv r s) val w' ∧ Inited w' r ∧ Inited w' s := link_ring hr hb hs

theorem Ring.cell2_id (h : Ring w D id nx pv val) {i : Nat} (hi : D i) : w.cell? ⟨i, 2, none⟩ = some (val i) := by
  obtain ⟨a, c, e, _⟩ := h.node i hi
  have e' : w.heap[i]? = some (.cells #[a, c, val i] 50 (0, 0)) := e
  rw [cell_of_heap e']; rfl
theorem Ring.neq_id (h : Ring w D id nx pv val) {i j : Nat} (hi : D i) (hj : D j) (hij : i ≠ j) :
    (binOp .neq 47 (P i) (P j)).run Try.prog w = .ok (.bool true) w := h.neq hi hj hij
theorem At_id (k : Nat) : At D id k ↔ D k := ⟨fun ⟨i, hi, e⟩ => by simp only [id] at e; rw [e]; exact hi, fun h => ⟨k, h, rfl⟩⟩

/-- The same ring, told with other words. -/
theorem Ring.conv {D' : Nat → Prop} {nx' pv' : Nat → Nat} {val' : Nat → Value} (h : Ring w D id nx pv val) (hD : ∀ i, D' i ↔ D i) (hn : ∀ i, D i → nx' i = nx i) (hp : ∀ i, D i → pv' i = pv i) (hv : ∀ i, D i → val' i = val i) : Ring w D' id nx' pv' val' := by
  refine ⟨fun i hi => ?_, fun i j _ _ e => e, fun i hi => ?_, fun i hi => ?_, fun i hi => ?_, fun i hi => ?_⟩
  · have hi' := (hD i).1 hi
    rw [hn i hi', hp i hi', hv i hi']; exact h.node i hi'
  · have hi' := (hD i).1 hi
    rw [hn i hi']; exact (hD _).2 (h.nxD i hi')
  · have hi' := (hD i).1 hi
    rw [hp i hi']; exact (hD _).2 (h.pvD i hi')
  · have hi' := (hD i).1 hi
    rw [hn i hi', hp _ (h.nxD i hi')]; exact h.pn i hi'
  · have hi' := (hD i).1 hi
    rw [hp i hi', hn _ (h.pvD i hi')]; exact h.np i hi'

/-- A new element, alone. -/
theorem Ring.add (h : Ring w D id nx pv val) (v : Value) :
    Ring (w.alloc (.cells #[.pointer none, .pointer none, v] 50)) (fun i => D i ∨ i = w.heap.size) id (upd nx w.heap.size w.heap.size) (upd pv w.heap.size w.heap.size) (fun i => if i = w.heap.size then v else val i) := by
  have hlt : ∀ i, D i → i ≠ w.heap.size := fun i hi => by have : id i < w.heap.size := h.lt hi; simp only [id] at this; omega
  refine ⟨fun i hi => ?_, fun i j _ _ e => e, fun i hi => ?_, fun i hi => ?_, fun i hi => ?_, fun i hi => ?_⟩
  · by_cases hib : i = w.heap.size
    · subst hib
      refine ⟨_, _, ?_, .inr ⟨rfl, rfl, ?_, ?_⟩⟩
      · rw [if_pos rfl]; exact heap_alloc_new w _
      · rw [upd_same]
      · rw [upd_same]
    · have hD := hi.resolve_right hib
      obtain ⟨a, c, e, r⟩ := h.node i hD
      refine ⟨a, c, ?_, ?_⟩
      · rw [if_neg hib, Below.heap_alloc _ _ _ (h.lt hD)]; exact e
      · rw [upd_other _ _ hib, upd_other _ _ hib]; exact r
  · rcases hi with hi | rfl
    · rw [upd_other _ _ (hlt i hi)]; exact .inl (h.nxD i hi)
    · rw [upd_same]; exact .inr rfl
  · rcases hi with hi | rfl
    · rw [upd_other _ _ (hlt i hi)]; exact .inl (h.pvD i hi)
    · rw [upd_same]; exact .inr rfl
  · rcases hi with hi | rfl
    · rw [upd_other _ _ (hlt i hi), upd_other _ _ (hlt _ (h.nxD i hi))]; exact h.pn i hi
    · rw [upd_same, upd_same]
  · rcases hi with hi | rfl
    · rw [upd_other _ _ (hlt i hi), upd_other _ _ (hlt _ (h.pvD i hi))]; exact h.np i hi
    · rw [upd_same, upd_same]

/-- The one ahead, in a ring that is told as a list. -/
theorem Ring.pv_succ (h : Ring w D id nx pv val) {a b : Nat} {l : List Nat} (hp : Path nx a l b) (hD : ∀ x ∈ l, D x) (j : Nat) (hj : j + 1 < l.length) : pv l[j + 1] = l[j] := by
  rw [← hp.get_succ j hj]; exact h.pn _ (hD _ (List.getElem_mem _))
theorem Ring.pv_head (h : Ring w D id nx pv val) {a : Nat} {l : List Nat} (hp : Path nx a l a) (hD : ∀ x ∈ l, D x) (h0 : 0 < l.length) : pv a = l[l.length - 1]'(by omega) := by
  have h1 := hp.get_last h0
  have h2 := h.pn _ (hD _ (List.getElem_mem (n := l.length - 1) (by omega)))
  rw [h1] at h2
  exact h2
end

end Go.Proofs.Ythgghafndabpfaa
