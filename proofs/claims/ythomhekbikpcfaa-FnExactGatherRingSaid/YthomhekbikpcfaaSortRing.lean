/- The walk of SortRing. -/
import Derived.Test.YthomhekbikpcfaaSort
import Derived.Test.YthomhekbikpcfaaRingId
namespace Go.Proofs.Ythomhekbikpcfaa
open Go.RowKit


/-- A ring that begins with root and holds the numbers l behind it; its blocks came since w. -/
def Holds (w wr : World) (root : Nat) (l : List Int) : Prop :=
  ∃ bs nx pv val, Ring wr (· ∈ root :: bs) id nx pv val ∧ Path nx root (root :: bs) root ∧ (root :: bs).Nodup ∧ bs.map val = l.map I ∧ (∀ b ∈ root :: bs, w.heap.size ≤ b) ∧ Bl w wr

theorem map_get {bs : List Nat} {val : Nat → Value} {l : List Int} (h : bs.map val = l.map I) (j : Nat) (hj : j < l.length) : ∃ hb : j < bs.length, val bs[j] = I l[j] := by
  have hl : bs.length = l.length := by have := congrArg List.length h; simpa using this
  refine ⟨by omega, ?_⟩
  have h1 : (bs.map val)[j]'(by simp; omega) = (l.map I)[j]'(by simp; omega) := by simp only [h]
  simpa using h1

/-- One element more: linked in behind position j. -/
theorem holds_insert {w w1 w2 : World} {root : Nat} {bs : List Nat} {nx pv : Nat → Nat} {val : Nat → Value} {l : List Int} (hr : Ring w1 (· ∈ root :: bs) id nx pv val) (hp : Path nx root (root :: bs) root) (hnd : (root :: bs).Nodup) (hv : bs.map val = l.map I)
    (hge : ∀ b ∈ root :: bs, w.heap.size ≤ b) (hb : Bl w w1) (x : Int) (j : Nat) (hj : j < (root :: bs).length)
    (hk : Kept (w1.alloc (.cells #[.pointer none, .pointer none, I x] 78)) (fun i => i ∈ root :: bs ∨ i = w1.heap.size) id
      (lnx (upd nx w1.heap.size w1.heap.size) (upd pv w1.heap.size w1.heap.size) (root :: bs)[j] w1.heap.size) (lpv (upd nx w1.heap.size w1.heap.size) (upd pv w1.heap.size w1.heap.size) (root :: bs)[j] w1.heap.size) (fun i => if i = w1.heap.size then I x else val i) w2) :
    Holds w w2 root (ins l j x) := by
  have hnew : w1.heap.size ∉ root :: bs := fun e => by have : id w1.heap.size < w1.heap.size := hr.lt e; simp only [id] at this; omega
  have hlen : bs.length = l.length := by have := congrArg List.length hv; simpa using this
  have hj' : j ≤ bs.length := by simp at hj; omega
  have hsplit : root :: bs = (root :: bs).take j ++ (root :: bs)[j] :: (root :: bs).drop (j + 1) := by rw [← List.drop_eq_getElem_cons hj, List.take_append_drop]
  refine ⟨bs.take j ++ w1.heap.size :: bs.drop j, _, _, _, hk.ring.conv (fun i => ?_) (fun _ _ => rfl) (fun _ _ => rfl) (fun _ _ => rfl), ?_, ?_, ?_, ?_, ?_⟩
  · have : i ∈ bs ↔ i ∈ bs.take j ∨ i ∈ bs.drop j := by rw [← List.mem_append, List.take_append_drop]
    simp only [List.mem_cons, List.mem_append, this]
    constructor
    · rintro (h | h | h | h)
      · exact .inl (.inl h)
      · exact .inl (.inr (.inl h))
      · exact .inr h
      · exact .inl (.inr (.inr h))
    · rintro ((h | h | h) | h)
      · exact .inl h
      · exact .inr (.inl h)
      · exact .inr (.inr (.inr h))
      · exact .inr (.inr (.inl h))
  · have h1 : Path (upd nx w1.heap.size w1.heap.size) root ((root :: bs).take j ++ (root :: bs)[j] :: (root :: bs).drop (j + 1)) root := by rw [← hsplit]; exact hp.upd_far hnew _
    have hnd' := hnd
    rw [hsplit, List.nodup_append, List.nodup_cons] at hnd'
    obtain ⟨n1, ⟨n2, n3⟩, n4⟩ := hnd'
    have hm := List.getElem_mem hj
    have h2 := h1.insert (x := w1.heap.size) (fun e => n4 _ e _ (by simp) rfl) n2 (fun e => hnew (List.mem_of_mem_take e)) (fun e => hnew (List.mem_of_mem_drop e)) (fun e => hnew (e ▸ hm))
    have e1 : lnx (upd nx w1.heap.size w1.heap.size) (upd pv w1.heap.size w1.heap.size) (root :: bs)[j] w1.heap.size = upd (upd (upd nx w1.heap.size w1.heap.size) (root :: bs)[j] w1.heap.size) w1.heap.size (upd nx w1.heap.size w1.heap.size (root :: bs)[j]) := by
      unfold lnx; rw [upd_same]
    rw [e1]
    have e2 : root :: (bs.take j ++ w1.heap.size :: bs.drop j) = (root :: bs).take j ++ (root :: bs)[j] :: w1.heap.size :: (root :: bs).drop (j + 1) := by
      have e3 : (root :: bs).take j ++ [(root :: bs)[j]] = root :: bs.take j := by rw [← List.take_succ_eq_append_getElem hj]; rfl
      rw [List.drop_succ_cons, ← List.cons_append, ← e3, List.append_assoc]
      rfl
    rw [e2]
    exact h2
  · have hnd2 := List.nodup_cons.1 hnd
    rw [List.nodup_cons, List.nodup_append, List.nodup_cons]
    have hb2 := hnd2.2
    rw [← List.take_append_drop j bs, List.nodup_append] at hb2
    obtain ⟨m1, m2, m3⟩ := hb2
    have hnew2 : w1.heap.size ∉ bs := fun e => hnew (by simp [e])
    refine ⟨?_, m1, ⟨fun e => hnew2 (List.mem_of_mem_drop e), m2⟩, ?_⟩
    · simp only [List.mem_append, List.mem_cons]
      rintro (h | h | h)
      · exact hnd2.1 (List.mem_of_mem_take h)
      · exact hnew (by rw [← h]; simp)
      · exact hnd2.1 (List.mem_of_mem_drop h)
    · intro a ha b hb' e
      subst e
      rcases List.mem_cons.1 hb' with rfl | hb'
      · exact hnew2 (List.mem_of_mem_take ha)
      · exact m3 a ha a hb' rfl
  · unfold ins
    have hmap : ∀ m : List Nat, (∀ y ∈ m, y ∈ bs) → m.map (fun i => if i = w1.heap.size then I x else val i) = m.map val := by
      intro m hm
      apply List.map_congr_left
      intro y hy
      rw [if_neg (fun e => hnew (by rw [← e]; simp [hm y hy]))]
    rw [List.map_append, List.map_cons, List.map_append, List.map_cons, if_pos rfl, hmap _ (fun y hy => List.mem_of_mem_take hy), hmap _ (fun y hy => List.mem_of_mem_drop hy), List.map_take, List.map_drop, hv, ← List.map_take, ← List.map_drop]
  · intro b hb'
    simp only [List.mem_cons, List.mem_append] at hb'
    rcases hb' with h | h | h | h
    · exact hge b (by simp [h])
    · exact hge b (by simp [List.mem_of_mem_take h])
    · rw [h]; exact hb.size
    · exact hge b (by simp [List.mem_of_mem_drop h])
  · refine bl_chg (bl_alloc hb _) hk.chg fun i hi => ?_
    rcases (At_id i).1 hi with h | h
    · exact hge i h
    · rw [h]; exact hb.size

theorem newRing_one {w w1 : World} (h : NewRing w 1 w1) : Holds w w1 w.heap.size [] := by
  have hn := h.ring.node 0 (by omega)
  have e : nxc 1 0 = 0 := rfl
  have e2 : pvc 1 0 = 0 := rfl
  rw [e, e2] at hn
  refine ⟨[], fun _ => w.heap.size, fun _ => w.heap.size, fun _ => .nilIface, ⟨fun i hi => ?_, fun i j _ _ e => e, fun i _ => by simp, fun i _ => by simp, fun i hi => ?_, fun i hi => ?_⟩, ⟨rfl, rfl⟩, by simp, rfl, fun b hb => ?_, h.bl⟩
  · simp at hi; subst hi; exact hn
  · simp at hi; exact hi.symm
  · simp at hi; exact hi.symm
  · simp at hb; omega


end Go.Proofs.Ythomhekbikpcfaa
